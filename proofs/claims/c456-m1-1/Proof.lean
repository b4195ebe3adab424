import JvmDerived
import JvmDerived.Pilot.@@N@@Statement
import JvmDerived.Pilot.@@N@@Code
set_option linter.unusedVariables false
set_option linter.unusedSimpArgs false
namespace Jvm.OwnFP
open Jvm.FP.Core
/-! own layer over the library's laws of doubles: values in units of the least double (zval), dyadic values, rounding bounds -/
abbrev zv (a : UInt64) : Int := zval b64 (val64 a)
theorem U_pos : (0 : Int) < (one64 : Int) := by have := one64_pos; omega
theorem signed_bd (s : Bool) (m : Nat) : -(m : Int) ≤ signed s m ∧ signed s m ≤ (m : Int) := by unfold signed; split <;> omega
theorem zv_bd (a : UInt64) : -(zmag b64 (val64 a) : Int) ≤ zv a ∧ zv a ≤ (zmag b64 (val64 a) : Int) := signed_bd _ _
theorem fin_between {a V W : UInt64} (hV : DFin V) (hW : DFin W) (hn : val64 a ≠ .nan) (h1 : zv W ≤ zv a) (h2 : zv a ≤ zv V) : DFin a := by
  cases hd : val64 a with
  | nan => exact absurd hd hn
  | fin s c q => exact ⟨s, c, q, hd⟩
  | inf s =>
    exfalso
    have a1 := hV.zval_lt; have a2 := hW.zval_lt
    have b1 := zv_bd V; have b2 := zv_bd W
    have e : zv a = signed s (b64.tails * 2 ^ (b64.exps - 2)) := by show zval b64 (val64 a) = _; rw [hd]; rfl
    generalize b64.tails * 2 ^ (b64.exps - 2) = TOP at a1 a2 e
    cases s
    · have : zv a = (TOP : Int) := e
      omega
    · have : zv a = -(TOP : Int) := e
      omega
theorem qmax_b64 : b64.qmax = 971 := by decide
theorem rep_exists (n : Int) (k : Nat) (hk : k ≤ 1074) (hn : n.natAbs < 2 ^ 53) : ∃ V, DFin V ∧ zv V * 2 ^ k = n * (one64 : Int) := by
  obtain ⟨c', q', h1, h2⟩ := round_exact (f := b64) good_b64 (decide (n < 0)) (c := n.natAbs) (q := -(k : Int)) hn (by rw [qmin_b64]; omega) (by rw [qmax_b64]; omega)
  have hf := round_fits good_b64 (.fin (decide (n < 0)) n.natAbs (-(k : Int)))
  have hv := val64_of64 hf
  rw [h1] at hv
  refine ⟨of64 (round b64 (.fin (decide (n < 0)) n.natAbs (-(k : Int)))), ⟨_, _, _, by rw [h1]; exact hv⟩, ?_⟩
  show zval b64 (val64 (of64 (round b64 (.fin (decide (n < 0)) n.natAbs (-(k : Int)))))) * 2 ^ k = _
  rw [h1, hv]
  show signed (decide (n < 0)) (inUnits c' q' b64.qmin) * 2 ^ k = _
  rw [h2]
  have e1 : inUnits n.natAbs (-(k : Int)) b64.qmin * 2 ^ k = n.natAbs * one64 := by
    unfold inUnits one64
    rw [qmin_b64, Nat.mul_assoc, ← Nat.pow_add]
    congr 2 <;> omega
  have e2 : signed (decide (n < 0)) (inUnits n.natAbs (-(k : Int)) b64.qmin) * ((2 ^ k : Nat) : Int) = signed (decide (n < 0)) n.natAbs * (one64 : Int) := by
    rw [← signed_mul, e1, signed_mul]
  have e3 : signed (decide (n < 0)) n.natAbs = n := by
    unfold signed
    by_cases h : n < 0
    · simp [h]; omega
    · simp [h]; omega
  rw [e3] at e2
  rw [← e2, Int.natCast_pow]; rfl
theorem rep_up (n : Int) (j : Nat) (hj : j ≤ 971) (hn : n.natAbs < 2 ^ 53) : ∃ V, DFin V ∧ zv V = n * 2 ^ j * (one64 : Int) := by
  obtain ⟨c', q', h1, h2⟩ := round_exact (f := b64) good_b64 (decide (n < 0)) (c := n.natAbs) (q := (j : Int)) hn (by rw [qmin_b64]; omega) (by rw [qmax_b64]; omega)
  have hf := round_fits good_b64 (.fin (decide (n < 0)) n.natAbs (j : Int))
  have hv := val64_of64 hf
  rw [h1] at hv
  refine ⟨of64 (round b64 (.fin (decide (n < 0)) n.natAbs (j : Int))), ⟨_, _, _, by rw [h1]; exact hv⟩, ?_⟩
  show zval b64 (val64 (of64 (round b64 (.fin (decide (n < 0)) n.natAbs (j : Int))))) = _
  rw [h1, hv]
  show signed (decide (n < 0)) (inUnits c' q' b64.qmin) = _
  rw [h2]
  have e1 : inUnits n.natAbs (j : Int) b64.qmin = n.natAbs * (2 ^ j * one64) := by
    unfold inUnits one64
    rw [qmin_b64, ← Nat.pow_add]
    congr 2 <;> omega
  have e3 : signed (decide (n < 0)) n.natAbs = n := by
    unfold signed
    by_cases h : n < 0
    · simp [h]; omega
    · simp [h]; omega
  rw [e1, signed_mul, e3, Int.natCast_mul, Int.natCast_pow, Int.mul_assoc]; rfl
/-- the double is finite and worth n / 2^k -/
def Dy (n : Int) (k : Nat) (a : UInt64) : Prop := DFin a ∧ zv a * 2 ^ k = n * (one64 : Int)
theorem two_pos (k : Nat) : (0 : Int) < 2 ^ k := Int.pow_pos (by decide)
theorem Dy.fin {n : Int} {k : Nat} {a : UInt64} (h : Dy n k a) : DFin a := h.1
theorem Dy.nn {n : Int} {k : Nat} {a : UInt64} (h : Dy n k a) : val64 a ≠ .nan := h.1.ne_nan
theorem dint_fin {i : Int} {a : UInt64} (h : DInt i a) : DFin a := by
  unfold DInt at h
  cases hd : val64 a with
  | nan => rw [hd] at h; exact h.elim
  | inf s => rw [hd] at h; exact h.elim
  | fin s c q => exact ⟨s, c, q, hd⟩
theorem Dy.of_int {i : Int} {a : UInt64} (h : DInt i a) : Dy i 0 a := ⟨dint_fin h, by rw [show zv a = i * (one64 : Int) from DInt_zval h]; simp⟩
theorem dy_i2d (a : Int32) : Dy a.toInt 0 (i2d a) := Dy.of_int (i2d_int a)
theorem dy_l2d {a : Int64} (h : a.toInt.natAbs ≤ 2 ^ 53) : Dy a.toInt 0 (l2d a) := Dy.of_int (l2d_int h)
theorem dy_zero : Dy 0 0 0 := ⟨⟨_, _, _, val64_zero⟩, by rw [show zv 0 = 0 from zval64_zero]; simp⟩
theorem dy_one : Dy 1 0 4607182418800017408 := Dy.of_int dint_one
theorem Dy.up {n : Int} {k : Nat} {a : UInt64} (h : Dy n k a) (j : Nat) : Dy (n * 2 ^ j) (k + j) a := ⟨h.1, by rw [Int.pow_add, ← Int.mul_assoc, h.2]; (generalize one64 = U; ac_rfl)⟩
theorem cancel {x y : Int} {k : Nat} (h : x * 2 ^ k = y * 2 ^ k) : x = y := Int.eq_of_mul_eq_mul_right (Int.ne_of_gt (two_pos k)) h
theorem Dy.eq {n : Int} {k : Nat} {a b : UInt64} (ha : Dy n k a) (hb : Dy n k b) : zv a = zv b := cancel (ha.2.trans hb.2.symm)
theorem val_dneg (a : UInt64) (h : val64 a ≠ .nan) : val64 (Jvm.FP.dneg a) = negate (val64 a) := by
  refine val64_neg_bits ?_
  have hx : (Jvm.FP.dneg a).toNat = a.toNat ^^^ 2 ^ 63 := by
    show (a ^^^ 0x8000000000000000).toNat = _
    rw [UInt64.toNat_xor]; rfl
  have hlt := a.toNat_lt
  by_cases hb : a.toNat < 2 ^ 63
  · right
    rw [hx, Nat.xor_comm]
    have := Nat.two_pow_add_eq_or_of_lt hb 1
    have e2 : (2 ^ 63 ^^^ a.toNat) = 2 ^ 63 + a.toNat := by
      rw [Nat.mul_one] at this
      rw [this]
      apply Nat.eq_of_testBit_eq; intro i
      simp only [Nat.testBit_xor, Nat.testBit_or, Nat.testBit_two_pow]
      by_cases q : 63 = i
      · subst q; simp [Nat.testBit_lt_two_pow hb]
      · simp [q]
    omega
  · left
    have hb' : a.toNat - 2 ^ 63 < 2 ^ 63 := by omega
    have := Nat.two_pow_add_eq_or_of_lt hb' 1
    rw [Nat.mul_one] at this
    have e0 : a.toNat = 2 ^ 63 ||| (a.toNat - 2 ^ 63) := by omega
    have e2 : a.toNat ^^^ 2 ^ 63 = a.toNat - 2 ^ 63 := by
      apply Nat.eq_of_testBit_eq; intro i
      rw [Nat.testBit_xor, Nat.testBit_two_pow]
      have t := congrArg (fun z => z.testBit i) e0
      simp only [Nat.testBit_or, Nat.testBit_two_pow] at t
      rw [t]
      by_cases q : 63 = i
      · subst q; simp [Nat.testBit_lt_two_pow hb']
      · simp [q]
    omega
theorem dneg_fin {a : UInt64} (h : DFin a) : DFin (Jvm.FP.dneg a) := by
  obtain ⟨s, c, q, e⟩ := h
  exact ⟨!s, c, q, by rw [val_dneg a (by rw [e]; exact nofun), e]; rfl⟩
theorem dneg_zv {a : UInt64} (h : val64 a ≠ .nan) : zv (Jvm.FP.dneg a) = -zv a := by
  show zval b64 (val64 (Jvm.FP.dneg a)) = _
  rw [val_dneg a h, zval_negate]
theorem dy_neg {n : Int} {k : Nat} {a : UInt64} (h : Dy n k a) : Dy (-n) k (Jvm.FP.dneg a) := ⟨dneg_fin h.1, by rw [dneg_zv h.nn, Int.neg_mul, h.2, Int.neg_mul]⟩
theorem cneg_fin {a : UInt64} (h : DFin a) : DFin (dneg a) := by
  obtain ⟨s, c, q, e⟩ := h
  exact ⟨!s, c, q, by rw [val64_dneg, e]; rfl⟩
theorem cneg_zv (a : UInt64) : zv (dneg a) = -zv a := by
  show zval b64 (val64 (dneg a)) = _
  rw [val64_dneg, zval_negate]
-- sums
theorem add_nn {a b : UInt64} (ha : DFin a) (hb : DFin b) : val64 (dadd a b) ≠ .nan := (notNaN_iff _).mp (dadd_out ha.notNaN hb)
theorem add_le {a b V : UInt64} (ha : DFin a) (hb : DFin b) (hV : val64 V ≠ .nan) (h : zv a + zv b ≤ zv V) : zv (dadd a b) ≤ zv V := by
  show zval b64 (val64 (dadd a b)) ≤ _
  rw [val64_dadd]
  exact sum_le good_b64 ha hb (val64_fits a) (val64_fits b) (val64_fits V) hV h
theorem add_ge {a b V : UInt64} (ha : DFin a) (hb : DFin b) (hV : val64 V ≠ .nan) (h : zv V ≤ zv a + zv b) : zv V ≤ zv (dadd a b) := by
  show _ ≤ zval b64 (val64 (dadd a b))
  rw [val64_dadd]
  exact sum_ge good_b64 ha hb (val64_fits a) (val64_fits b) (val64_fits V) hV h
theorem add_exact {a b V : UInt64} (ha : DFin a) (hb : DFin b) (hV : DFin V) (h : zv a + zv b = zv V) : DFin (dadd a b) ∧ zv (dadd a b) = zv V := by
  have h1 := add_le ha hb hV.ne_nan (Int.le_of_eq h)
  have h2 := add_ge ha hb hV.ne_nan (Int.le_of_eq h.symm)
  exact ⟨fin_between hV hV (add_nn ha hb) h2 h1, Int.le_antisymm h1 h2⟩
theorem dy_add {n m : Int} {k : Nat} {a b : UInt64} (ha : Dy n k a) (hb : Dy m k b) (hk : k ≤ 1074) (h : (n + m).natAbs < 2 ^ 53) : Dy (n + m) k (dadd a b) := by
  obtain ⟨V, hV, e⟩ := rep_exists (n + m) k hk h
  have q : zv a + zv b = zv V := cancel (k := k) (by rw [Int.add_mul, ha.2, hb.2, e, Int.add_mul])
  obtain ⟨h1, h2⟩ := add_exact ha.1 hb.1 hV q
  exact ⟨h1, by rw [h2]; exact e⟩
theorem dy_sub {n m : Int} {k : Nat} {a b : UInt64} (ha : Dy n k a) (hb : Dy m k b) (hk : k ≤ 1074) (h : (n - m).natAbs < 2 ^ 53) : Dy (n - m) k (dsub a b) := by
  rw [dsub_eq]
  have hb' : Dy (-m) k (dneg b) := ⟨cneg_fin hb.1, by rw [cneg_zv, Int.neg_mul, hb.2, Int.neg_mul]⟩
  have := dy_add ha hb' hk (by rw [← Int.sub_eq_add_neg]; exact h)
  rw [← Int.sub_eq_add_neg] at this; exact this
-- products
theorem mul_nn {a b : UInt64} (ha : DFin a) (hb : DFin b) : val64 (dmul a b) ≠ .nan := (notNaN_iff _).mp (dmul_out ha hb)
theorem mul_units {a b : UInt64} (ha : DFin a) (hb : DFin b) : ∃ s c q, exactProduct (val64 a) (val64 b) = .fin s c q ∧ 2 * b64.qmin ≤ q ∧ signed s (inUnits c q (2 * b64.qmin)) = zv a * zv b := by
  obtain ⟨s, c, q, ea⟩ := ha
  obtain ⟨t, d, r, eb⟩ := hb
  have fa := val64_fits a; have fb := val64_fits b
  rw [ea] at fa; rw [eb] at fb
  obtain ⟨h1, h2, h3⟩ := product_units fa fb
  refine ⟨_, _, _, by rw [ea, eb]; exact h1, h2, ?_⟩
  rw [h3, signed_xor]
  show _ = zval b64 (val64 a) * zval b64 (val64 b)
  rw [ea, eb]; rfl
theorem two_qmin : (b64.qmin - 2 * b64.qmin).toNat = (-b64.qmin).toNat := by congr 1 <;> omega
theorem mul_le {a b V : UInt64} (ha : DFin a) (hb : DFin b) (hV : val64 V ≠ .nan) (h : zv a * zv b ≤ zv V * (one64 : Int)) : zv (dmul a b) ≤ zv V := by
  obtain ⟨s, c, q, e1, e2, e3⟩ := mul_units ha hb
  show zval b64 (val64 (dmul a b)) ≤ zval b64 (val64 V)
  rw [val64_dmul, e1]
  refine zval_round_le good_b64 (val64_fits V) hV (e0 := 2 * b64.qmin) (by rw [qmin_b64]; decide) e2 ?_
  rw [e3, two_qmin, pow_qmin64]; exact h
theorem mul_ge {a b V : UInt64} (ha : DFin a) (hb : DFin b) (hV : val64 V ≠ .nan) (h : zv V * (one64 : Int) ≤ zv a * zv b) : zv V ≤ zv (dmul a b) := by
  obtain ⟨s, c, q, e1, e2, e3⟩ := mul_units ha hb
  show zval b64 (val64 V) ≤ zval b64 (val64 (dmul a b))
  rw [val64_dmul, e1]
  refine zval_round_ge good_b64 (val64_fits V) hV (e0 := 2 * b64.qmin) (by rw [qmin_b64]; decide) e2 ?_
  rw [e3, two_qmin, pow_qmin64]; exact h
theorem mul_exact {a b V : UInt64} (ha : DFin a) (hb : DFin b) (hV : DFin V) (h : zv a * zv b = zv V * (one64 : Int)) : DFin (dmul a b) ∧ zv (dmul a b) = zv V := by
  have h1 := mul_le ha hb hV.ne_nan (Int.le_of_eq h)
  have h2 := mul_ge ha hb hV.ne_nan (Int.le_of_eq h.symm)
  exact ⟨fin_between hV hV (mul_nn ha hb) h2 h1, Int.le_antisymm h1 h2⟩
theorem dy_mul {n m : Int} {k j : Nat} {a b : UInt64} (ha : Dy n k a) (hb : Dy m j b) (hk : k + j ≤ 1074) (h : (n * m).natAbs < 2 ^ 53) : Dy (n * m) (k + j) (dmul a b) := by
  obtain ⟨V, hV, e⟩ := rep_exists (n * m) (k + j) hk h
  have q : zv a * zv b = zv V * (one64 : Int) := cancel (k := k + j) (by
    have : zv a * zv b * 2 ^ (k + j) = (zv a * 2 ^ k) * (zv b * 2 ^ j) := by rw [Int.pow_add]; (generalize one64 = U; ac_rfl)
    rw [this, ha.2, hb.2, show zv V * (one64 : Int) * 2 ^ (k + j) = zv V * 2 ^ (k + j) * (one64 : Int) by (generalize one64 = U; ac_rfl), e]; (generalize one64 = U; ac_rfl))
  obtain ⟨h1, h2⟩ := mul_exact ha.1 hb.1 hV q
  exact ⟨h1, by rw [h2]; exact e⟩
-- quotients
theorem nz_of {b : UInt64} (hb : DFin b) (h : zv b ≠ 0) : ¬ DZero b := fun q => h q.zval
theorem div_nn {a b : UInt64} (ha : DFin a) (hb : DFin b) (h : zv b ≠ 0) : val64 (ddiv a b) ≠ .nan := (notNaN_iff _).mp (ddiv_out ha.notNaN hb (nz_of hb h))
theorem div_pows {q r e0 : Int} (hq : b64.qmin ≤ q) (hr : b64.qmin ≤ r) (h0 : e0 ≤ b64.qmin) (h1 : e0 ≤ q - r) :
    2 ^ (q - r - e0).toNat * 2 ^ (r - b64.qmin).toNat = 2 ^ (q - b64.qmin).toNat * one64 * 2 ^ (b64.qmin - e0).toNat := by
  unfold one64
  rw [← Nat.pow_add, ← Nat.pow_add, ← Nat.pow_add]
  rw [qmin_b64] at *
  congr 1 <;> omega
theorem div_val {a b : UInt64} {s t : Bool} {c d : Nat} {q r : Int} (ea : val64 a = .fin s c q) (eb : val64 b = .fin t d r) (hd : d ≠ 0) : val64 (ddiv a b) = roundRatio b64 (s != t) c d (q - r) := by
  rw [val64_ddiv, ea, eb]
  simp [quotient, hd]
theorem div_mag_le {a b V : UInt64} (ha : DFin a) (hb : DFin b) (hz : zmag b64 (val64 b) ≠ 0) (hV : val64 V ≠ .nan) (h : zmag b64 (val64 a) * one64 ≤ zmag b64 (val64 V) * zmag b64 (val64 b)) : zmag b64 (val64 (ddiv a b)) ≤ zmag b64 (val64 V) := by
  obtain ⟨s, c, q, ea⟩ := ha
  obtain ⟨t, d, r, eb⟩ := hb
  have fa := val64_fits a; have fb := val64_fits b
  rw [ea] at fa; rw [eb] at fb
  have za : zmag b64 (val64 a) = c * 2 ^ (q - b64.qmin).toNat := by rw [ea]; rfl
  have zb : zmag b64 (val64 b) = d * 2 ^ (r - b64.qmin).toNat := by rw [eb]; rfl
  have hd : d ≠ 0 := fun q => hz (by rw [zb, q, Nat.zero_mul])
  rw [div_val ea eb hd]
  have hp := div_pows (e0 := min b64.qmin (q - r)) fa.2.1 fb.2.1 (by omega) (by omega)
  refine zmag_roundRatio_le good_b64 (Nat.pos_of_ne_zero hd) (val64_fits V) hV (e0 := min b64.qmin (q - r)) (by omega) (by omega) ?_
  rw [za, zb] at h
  generalize zmag b64 (val64 V) = v at h ⊢
  unfold inUnits
  refine Nat.le_of_mul_le_mul_right (c := 2 ^ (r - b64.qmin).toNat) ?_ (Nat.two_pow_pos _)
  rw [Nat.mul_assoc, hp]
  have := Nat.mul_le_mul_right (2 ^ (b64.qmin - min b64.qmin (q - r)).toNat) h
  calc c * (2 ^ (q - b64.qmin).toNat * one64 * 2 ^ (b64.qmin - min b64.qmin (q - r)).toNat) = c * 2 ^ (q - b64.qmin).toNat * one64 * 2 ^ (b64.qmin - min b64.qmin (q - r)).toNat := by (generalize one64 = U; ac_rfl)
    _ ≤ _ := this
    _ = v * 2 ^ (b64.qmin - min b64.qmin (q - r)).toNat * d * 2 ^ (r - b64.qmin).toNat := by (generalize one64 = U; ac_rfl)
theorem div_mag_ge {a b V : UInt64} (ha : DFin a) (hb : DFin b) (hz : zmag b64 (val64 b) ≠ 0) (hV : val64 V ≠ .nan) (h : zmag b64 (val64 V) * zmag b64 (val64 b) ≤ zmag b64 (val64 a) * one64) : zmag b64 (val64 V) ≤ zmag b64 (val64 (ddiv a b)) := by
  obtain ⟨s, c, q, ea⟩ := ha
  obtain ⟨t, d, r, eb⟩ := hb
  have fa := val64_fits a; have fb := val64_fits b
  rw [ea] at fa; rw [eb] at fb
  have za : zmag b64 (val64 a) = c * 2 ^ (q - b64.qmin).toNat := by rw [ea]; rfl
  have zb : zmag b64 (val64 b) = d * 2 ^ (r - b64.qmin).toNat := by rw [eb]; rfl
  have hd : d ≠ 0 := fun q => hz (by rw [zb, q, Nat.zero_mul])
  rw [div_val ea eb hd]
  have hp := div_pows (e0 := min b64.qmin (q - r)) fa.2.1 fb.2.1 (by omega) (by omega)
  refine zmag_roundRatio_ge good_b64 (Nat.pos_of_ne_zero hd) (val64_fits V) (e0 := min b64.qmin (q - r)) (by omega) (by omega) ?_
  rw [za, zb] at h
  generalize zmag b64 (val64 V) = v at h ⊢
  unfold inUnits
  refine Nat.le_of_mul_le_mul_right (c := 2 ^ (r - b64.qmin).toNat) ?_ (Nat.two_pow_pos _)
  rw [Nat.mul_assoc c, hp]
  have := Nat.mul_le_mul_right (2 ^ (b64.qmin - min b64.qmin (q - r)).toNat) h
  calc v * 2 ^ (b64.qmin - min b64.qmin (q - r)).toNat * d * 2 ^ (r - b64.qmin).toNat = v * (d * 2 ^ (r - b64.qmin).toNat) * 2 ^ (b64.qmin - min b64.qmin (q - r)).toNat := by (generalize one64 = U; ac_rfl)
    _ ≤ _ := this
    _ = c * (2 ^ (q - b64.qmin).toNat * one64 * 2 ^ (b64.qmin - min b64.qmin (q - r)).toNat) := by (generalize one64 = U; ac_rfl)
theorem div_sgn {a b : UInt64} (ha : DFin a) (hb : DFin b) (hz : zmag b64 (val64 b) ≠ 0) : sgn (val64 (ddiv a b)) = (sgn (val64 a) != sgn (val64 b)) := by
  obtain ⟨s, c, q, ea⟩ := ha
  obtain ⟨t, d, r, eb⟩ := hb
  have zb : zmag b64 (val64 b) = d * 2 ^ (r - b64.qmin).toNat := by rw [eb]; rfl
  have hd : d ≠ 0 := fun q => hz (by rw [zb, q, Nat.zero_mul])
  rw [div_val ea eb hd, sgn_roundRatio, ea, eb]; rfl
theorem zv_cases (a : UInt64) : (sgn (val64 a) = false ∧ zv a = (zmag b64 (val64 a) : Int)) ∨ (sgn (val64 a) = true ∧ zv a = -(zmag b64 (val64 a) : Int)) := by
  show (_ ∧ signed _ _ = _) ∨ (_ ∧ signed _ _ = _)
  cases sgn (val64 a) <;> simp [signed]
theorem nat_mul_le {a b c d : Nat} (h : (a : Int) * (b : Int) ≤ (c : Int) * (d : Int)) : a * b ≤ c * d := by
  rw [← Int.natCast_mul, ← Int.natCast_mul] at h; exact Int.ofNat_le.mp h
theorem div_le {a b V : UInt64} (ha : DFin a) (hb : DFin b) (hp : 0 < zv b) (hV : val64 V ≠ .nan) (h : zv a * (one64 : Int) ≤ zv V * zv b) : zv (ddiv a b) ≤ zv V := by
  have ub := zv_bd b
  have hz : zmag b64 (val64 b) ≠ 0 := by omega
  have eb : sgn (val64 b) = false ∧ zv b = (zmag b64 (val64 b) : Int) := by rcases zv_cases b with q | q; exact q; omega
  have es := div_sgn ha hb hz
  rw [eb.1] at es
  have hU := U_pos
  rcases zv_cases a with ⟨sa, ea⟩ | ⟨sa, ea⟩ <;> rw [sa] at es
  · have er : zv (ddiv a b) = (zmag b64 (val64 (ddiv a b)) : Int) := by rcases zv_cases (ddiv a b) with q | q; exact q.2; rw [q.1] at es; cases es
    rcases zv_cases V with ⟨sv, ev⟩ | ⟨sv, ev⟩
    · have := div_mag_le ha hb hz hV (nat_mul_le (by rw [← ea, ← ev, ← eb.2]; exact h))
      omega
    · have h0 : 0 ≤ zv a * (one64 : Int) := Int.mul_nonneg (by omega) (by omega)
      have h1 : 0 ≤ zv V * zv b := Int.le_trans h0 h
      have h2 : zv V = 0 := by
        by_cases q : zv V < 0
        · have := Int.mul_neg_of_neg_of_pos q hp; omega
        · omega
      have h3 : zmag b64 (val64 V) = 0 := by omega
      rw [h2, Int.zero_mul] at h
      have h5 : zmag b64 (val64 a) * one64 ≤ zmag b64 (val64 V) * zmag b64 (val64 b) := nat_mul_le (by rw [← ea, h3]; simpa using h)
      have := div_mag_le ha hb hz hV h5
      omega
  · have er : zv (ddiv a b) = -(zmag b64 (val64 (ddiv a b)) : Int) := by rcases zv_cases (ddiv a b) with q | q; rw [q.1] at es; cases es; exact q.2
    rcases zv_cases V with ⟨sv, ev⟩ | ⟨sv, ev⟩
    · omega
    · have := div_mag_ge ha hb hz hV (nat_mul_le (by
        have : zv V * zv b = -((zmag b64 (val64 V) : Int) * (zmag b64 (val64 b) : Int)) := by rw [ev, eb.2, Int.neg_mul]
        have h6 : zv a * (one64 : Int) = -((zmag b64 (val64 a) : Int) * (one64 : Int)) := by rw [ea, Int.neg_mul]
        omega))
      omega
theorem div_ge {a b V : UInt64} (ha : DFin a) (hb : DFin b) (hp : 0 < zv b) (hV : val64 V ≠ .nan) (h : zv V * zv b ≤ zv a * (one64 : Int)) : zv V ≤ zv (ddiv a b) := by
  have ub := zv_bd b
  have hz : zmag b64 (val64 b) ≠ 0 := by omega
  have eb : sgn (val64 b) = false ∧ zv b = (zmag b64 (val64 b) : Int) := by rcases zv_cases b with q | q; exact q; omega
  have es := div_sgn ha hb hz
  rw [eb.1] at es
  have hU := U_pos
  rcases zv_cases a with ⟨sa, ea⟩ | ⟨sa, ea⟩ <;> rw [sa] at es
  · have er : zv (ddiv a b) = (zmag b64 (val64 (ddiv a b)) : Int) := by rcases zv_cases (ddiv a b) with q | q; exact q.2; rw [q.1] at es; cases es
    rcases zv_cases V with ⟨sv, ev⟩ | ⟨sv, ev⟩
    · have := div_mag_ge ha hb hz hV (nat_mul_le (by rw [← ea, ← ev, ← eb.2]; exact h))
      omega
    · omega
  · have er : zv (ddiv a b) = -(zmag b64 (val64 (ddiv a b)) : Int) := by rcases zv_cases (ddiv a b) with q | q; rw [q.1] at es; cases es; exact q.2
    rcases zv_cases V with ⟨sv, ev⟩ | ⟨sv, ev⟩
    · have h0 : zv a * (one64 : Int) ≤ 0 := Int.mul_nonpos_of_nonpos_of_nonneg (by omega) (by omega)
      have h1 : zv V * zv b ≤ 0 := Int.le_trans h h0
      have h2 : zv V = 0 := by
        by_cases q : 0 < zv V
        · have := Int.mul_pos q hp; omega
        · omega
      have h3 : zmag b64 (val64 V) = 0 := by omega
      rw [h2, Int.zero_mul] at h
      have h4 : (zmag b64 (val64 a) : Int) * (one64 : Int) = -(zv a * (one64 : Int)) := by rw [ea, Int.neg_mul, Int.neg_neg]
      have h5 : zmag b64 (val64 a) * one64 ≤ zmag b64 (val64 V) * zmag b64 (val64 b) := nat_mul_le (by rw [h4, h3]; simp; omega)
      have := div_mag_le ha hb hz hV h5
      omega
    · have := div_mag_le ha hb hz hV (nat_mul_le (by
        have : zv V * zv b = -((zmag b64 (val64 V) : Int) * (zmag b64 (val64 b) : Int)) := by rw [ev, eb.2, Int.neg_mul]
        have h6 : zv a * (one64 : Int) = -((zmag b64 (val64 a) : Int) * (one64 : Int)) := by rw [ea, Int.neg_mul]
        omega))
      omega
theorem Dy.pos {m : Int} {j : Nat} {b : UInt64} (hb : Dy m j b) (hm : 0 < m) : 0 < zv b := by
  have h1 : 0 < zv b * 2 ^ j := by rw [hb.2]; exact Int.mul_pos hm U_pos
  exact Int.pos_of_mul_pos_left h1 (two_pos j)
theorem div_le_dy {n m q : Int} {k j i : Nat} {a b : UInt64} (ha : Dy n k a) (hb : Dy m j b) (hm : 0 < m) (hi : i ≤ 1074) (hq : q.natAbs < 2 ^ 53) (h : n * 2 ^ j * 2 ^ i ≤ q * m * 2 ^ k) : zv (ddiv a b) * 2 ^ i ≤ q * (one64 : Int) := by
  obtain ⟨V, hV, e⟩ := rep_exists q i hi hq
  rw [← e]
  refine Int.mul_le_mul_of_nonneg_right (div_le ha.1 hb.1 (hb.pos hm) hV.ne_nan ?_) (Int.le_of_lt (two_pos i))
  have hU := U_pos
  refine Int.le_of_mul_le_mul_right (a := 2 ^ k * 2 ^ j * 2 ^ i) ?_ (Int.mul_pos (Int.mul_pos (two_pos k) (two_pos j)) (two_pos i))
  have e1 : zv a * (one64 : Int) * (2 ^ k * 2 ^ j * 2 ^ i) = n * 2 ^ j * 2 ^ i * ((one64 : Int) * (one64 : Int)) := by
    rw [show zv a * (one64 : Int) * (2 ^ k * 2 ^ j * 2 ^ i) = zv a * 2 ^ k * ((one64 : Int) * 2 ^ j * 2 ^ i) by (generalize one64 = U; ac_rfl), ha.2]; (generalize one64 = U; ac_rfl)
  have e2 : zv V * zv b * (2 ^ k * 2 ^ j * 2 ^ i) = q * m * 2 ^ k * ((one64 : Int) * (one64 : Int)) := by
    rw [show zv V * zv b * (2 ^ k * 2 ^ j * 2 ^ i) = (zv V * 2 ^ i) * (zv b * 2 ^ j) * 2 ^ k by (generalize one64 = U; ac_rfl), e, hb.2]; (generalize one64 = U; ac_rfl)
  rw [e1, e2]
  exact Int.mul_le_mul_of_nonneg_right h (Int.le_of_lt (Int.mul_pos hU hU))
theorem div_ge_dy {n m q : Int} {k j i : Nat} {a b : UInt64} (ha : Dy n k a) (hb : Dy m j b) (hm : 0 < m) (hi : i ≤ 1074) (hq : q.natAbs < 2 ^ 53) (h : q * m * 2 ^ k ≤ n * 2 ^ j * 2 ^ i) : q * (one64 : Int) ≤ zv (ddiv a b) * 2 ^ i := by
  obtain ⟨V, hV, e⟩ := rep_exists q i hi hq
  rw [← e]
  refine Int.mul_le_mul_of_nonneg_right (div_ge ha.1 hb.1 (hb.pos hm) hV.ne_nan ?_) (Int.le_of_lt (two_pos i))
  have hU := U_pos
  refine Int.le_of_mul_le_mul_right (a := 2 ^ k * 2 ^ j * 2 ^ i) ?_ (Int.mul_pos (Int.mul_pos (two_pos k) (two_pos j)) (two_pos i))
  have e1 : zv a * (one64 : Int) * (2 ^ k * 2 ^ j * 2 ^ i) = n * 2 ^ j * 2 ^ i * ((one64 : Int) * (one64 : Int)) := by
    rw [show zv a * (one64 : Int) * (2 ^ k * 2 ^ j * 2 ^ i) = zv a * 2 ^ k * ((one64 : Int) * 2 ^ j * 2 ^ i) by (generalize one64 = U; ac_rfl), ha.2]; (generalize one64 = U; ac_rfl)
  have e2 : zv V * zv b * (2 ^ k * 2 ^ j * 2 ^ i) = q * m * 2 ^ k * ((one64 : Int) * (one64 : Int)) := by
    rw [show zv V * zv b * (2 ^ k * 2 ^ j * 2 ^ i) = (zv V * 2 ^ i) * (zv b * 2 ^ j) * 2 ^ k by (generalize one64 = U; ac_rfl), e, hb.2]; (generalize one64 = U; ac_rfl)
  rw [e1, e2]
  exact Int.mul_le_mul_of_nonneg_right h (Int.le_of_lt (Int.mul_pos hU hU))
theorem dy_div {n m q : Int} {k j i : Nat} {a b : UInt64} (ha : Dy n k a) (hb : Dy m j b) (hm : 0 < m) (hi : i ≤ 1074) (hq : q.natAbs < 2 ^ 53) (h : n * 2 ^ j * 2 ^ i = q * m * 2 ^ k) : Dy q i (ddiv a b) := by
  have h1 := div_le_dy ha hb hm hi hq (Int.le_of_eq h)
  have h2 := div_ge_dy ha hb hm hi hq (Int.le_of_eq h.symm)
  have h3 := Int.le_antisymm h1 h2
  obtain ⟨V, hV, e⟩ := rep_exists q i hi hq
  have h4 : zv (ddiv a b) = zv V := cancel (h3.trans e.symm)
  exact ⟨fin_between hV hV (div_nn ha.1 hb.1 (Int.ne_of_gt (hb.pos hm))) (Int.le_of_eq h4.symm) (Int.le_of_eq h4), h3⟩
-- comparisons
theorem cmp_dy {n m : Int} {k j : Nat} {a b : UInt64} (ha : Dy n k a) (hb : Dy m j b) : Jvm.FP.dcmp a b = some (compare (n * 2 ^ j) (m * 2 ^ k)) := by
  show dcmp a b = _
  rw [dcmp_zval ha.nn hb.nn]
  congr 1
  have hU := U_pos
  have e1 : zv a * (2 ^ k * 2 ^ j) = n * 2 ^ j * (one64 : Int) := by rw [← Int.mul_assoc, ha.2]; (generalize one64 = U; ac_rfl)
  have e2 : zv b * (2 ^ k * 2 ^ j) = m * 2 ^ k * (one64 : Int) := by rw [show zv b * (2 ^ k * 2 ^ j) = zv b * 2 ^ j * 2 ^ k by (generalize one64 = U; ac_rfl), hb.2]; (generalize one64 = U; ac_rfl)
  rw [← compare_mul_pos (zv a) (zv b) (2 ^ k * 2 ^ j) (Int.mul_pos (two_pos k) (two_pos j)), e1, e2, compare_mul_pos _ _ _ hU]
theorem cmp_dy0 {n m : Int} {k : Nat} {a b : UInt64} (ha : Dy n k a) (hb : Dy m k b) : Jvm.FP.dcmp a b = some (compare n m) := by
  rw [cmp_dy ha hb, compare_mul_pos _ _ _ (two_pos k)]
theorem cmp_lt {a b : UInt64} (ha : val64 a ≠ .nan) (hb : val64 b ≠ .nan) (h : zv a < zv b) : Jvm.FP.dcmp a b = some .lt := dcmp_lt.mpr ⟨ha, hb, h⟩
theorem cmp_eq {a b : UInt64} (ha : val64 a ≠ .nan) (hb : val64 b ≠ .nan) (h : zv a = zv b) : Jvm.FP.dcmp a b = some .eq := dcmp_eq.mpr ⟨ha, hb, h⟩
theorem cmp_gt {a b : UInt64} (ha : val64 a ≠ .nan) (hb : val64 b ≠ .nan) (h : zv b < zv a) : Jvm.FP.dcmp a b = some .gt := dcmp_gt.mpr ⟨ha, hb, h⟩
open Jvm.Op in
theorem cv_lt_g (r : Option Ordering) : cmpValue r .g < 0 ↔ r = some .lt := by rcases r with _ | (_ | _ | _) <;> decide
open Jvm.Op in
theorem cv_lt_l (r : Option Ordering) : cmpValue r .l < 0 ↔ r = some .lt ∨ r = none := by rcases r with _ | (_ | _ | _) <;> decide
open Jvm.Op in
theorem cv_gt_g (r : Option Ordering) : 0 < cmpValue r .g ↔ r = some .gt ∨ r = none := by rcases r with _ | (_ | _ | _) <;> decide
open Jvm.Op in
theorem cv_gt_l (r : Option Ordering) : 0 < cmpValue r .l ↔ r = some .gt := by rcases r with _ | (_ | _ | _) <;> decide
open Jvm.Op in
theorem cv_eq (r : Option Ordering) (o : Jvm.ClassFile.CmpOp) : cmpValue r o = 0 ↔ r = some .eq := by cases o <;> rcases r with _ | (_ | _ | _) <;> decide
theorem nn64 {a : UInt64} (h : DFin a) : Jvm.Free.Fl.NoNaN64 a := Jvm.Free.Fl.val64_no.mpr h.ne_nan
theorem nnv {a : UInt64} (h : val64 a ≠ .nan) : Jvm.Free.Fl.NoNaN64 a := Jvm.Free.Fl.val64_no.mpr h
theorem nn_v {a : UInt64} (h : Jvm.Free.Fl.NoNaN64 a) : val64 a ≠ .nan := Jvm.Free.Fl.val64_no.mp h
end Jvm.OwnFP
namespace Jvm.OwnKit
open Jvm Jvm.ClassFile Sem Op Lib Jvm.Free Jvm.Stand Jvm.LawKit Jvm.RoadKit
theorem eqF_int {Z : State} {args : Array Value} {t : Term} {C n d : String} {x : Addr} {k : Int32} (ev : t.eval args Z none [] Z = some (.ref x)) (h : (Jvm.Cond.eq (Term.field t C n d) (Term.int k)).value args Z none Z [] = some true) : Fld Z Z.heap x C n d (.int k) := by
  obtain ⟨u, w, h1, h2, -, h4⟩ := cmp_v (Or.inl h)
  have e2 : (Term.int k).eval args Z none [] Z = some (.int k) := Term.int_eval k
  cases e2.symm.trans h2
  obtain ⟨z, rfl⟩ := h4
  have hz : z = k := by simpa [Cond.value, h1, e2] using h
  subst hz
  exact Fld.start (by rw [← fld_at ev]; exact h1)
theorem eqF_dbl {Z : State} {args : Array Value} {t : Term} {C n d : String} {x : Addr} {k : Int64} {b : UInt64} (ev : t.eval args Z none [] Z = some (.ref x)) (h : (Jvm.Cond.eq (Term.field t C n d) (Term.op1 Jvm.Unary.bitsD (Term.long k))).value args Z none Z [] = some true) (hb : k.toUInt64 = b) : Fld Z Z.heap x C n d (.double b) := by
  obtain ⟨u, w, h1, h2, -, h4⟩ := cmp_v (Or.inl h)
  have e2 : (Term.op1 Jvm.Unary.bitsD (Term.long k)).eval args Z none [] Z = some (.double k.toUInt64) := by simp [Term.eval, Jvm.Unary.apply]
  cases e2.symm.trans h2
  obtain ⟨z, rfl⟩ := h4
  have hz : z = k.toUInt64 := by simpa [Cond.value, h1, e2] using h
  subst hz; subst hb
  exact Fld.start (by rw [← fld_at ev]; exact h1)
theorem eqS_int {Z : State} {args : Array Value} {C n d : String} {k : Int32} (h : (Jvm.Cond.eq (Term.static C n d) (Term.int k)).value args Z none Z [] = some true) : (Term.static C n d).eval args Z none [] Z = some (.int k) := by
  obtain ⟨u, w, h1, h2, -, h4⟩ := cmp_v (Or.inl h)
  have e2 : (Term.int k).eval args Z none [] Z = some (.int k) := Term.int_eval k
  cases e2.symm.trans h2
  obtain ⟨z, rfl⟩ := h4
  have hz : z = k := by simpa [Cond.value, h1, e2] using h
  subst hz
  exact h1
theorem staKeep {Z : State} {h h' : Heap} {C n d : String} {v : Value} {ws : List Addr} (F : Sta Z h C n d v) (K : Keep h h' ws) (q : ∀ x ∈ ws, ∃ c : Cell, h[x]? = some c ∧ c.vm.isStatics = false) : Sta Z h' C n d v := by
  obtain ⟨cf, i, k, f, st, cell, h1, h2, h3, h4, h5, h6, h7⟩ := F
  refine ⟨cf, i, k, f, st, cell, h1, h2, h3, h4, K.2.1 st cell h5 fun hm => ?_, h6, h7⟩
  obtain ⟨c, e1, e2⟩ := q st hm
  cases h5.symm.trans e1
  rw [e2] at h6; cases h6
theorem exaSt {Z : State} {h : Heap} {a : Addr} {C : String} (F : Exa Z h a C) : ∃ c : Cell, h[a]? = some c ∧ c.vm.isStatics = false := by
  obtain ⟨c, _, h1, -, -, h4, -⟩ := F; exact ⟨c, h1, h4⟩
theorem arvSt {Z : State} {h : Heap} {a : Addr} {k : ClassId} {ty : FieldType} {z : Int32} {vs : List Value} {dv : Value} (F : Arv Z h a k ty z vs dv) : ∃ c : Cell, h[a]? = some c ∧ c.vm.isStatics = false := by
  obtain ⟨c, A, -⟩ := F; exact ⟨c, A.1, A.plain⟩
theorem narB0 : nar .boolean 0 = 0 := by decide
theorem narB1 : nar .boolean 1 = 1 := by decide
end Jvm.OwnKit
namespace Jvm.OwnNear
/-! the plain law of a bounded sorted list of offers: indices I, distances D (small whole numbers), size -/
def shiftP {α : Type} (z : α) (d : Nat) : Nat → List α → List Nat → List α × List Nat × Nat
  | 0, I, D => (I, D, 0)
  | p + 1, I, D => if d < D.getD p 0 then shiftP z d p (I.set (p + 1) (I.getD p z)) (D.set (p + 1) (D.getD p 0)) else (I, D, p + 1)
def putP {α : Type} (z x : α) (d p : Nat) (I : List α) (D : List Nat) : List α × List Nat :=
  ((shiftP z d p I D).1.set (shiftP z d p I D).2.2 x, (shiftP z d p I D).2.1.set (shiftP z d p I D).2.2 d)
def offerP {α : Type} (z : α) (c : Nat) (x : α) (d : Nat) (s : List α × List Nat × Nat) : List α × List Nat × Nat :=
  if c - 1 < s.2.2 then (if d < s.2.1.getD (c - 1) 0 then ((putP z x d (c - 1) s.1 s.2.1).1, (putP z x d (c - 1) s.1 s.2.1).2, s.2.2) else s)
  else ((putP z x d s.2.2 s.1 s.2.1).1, (putP z x d s.2.2 s.1 s.2.1).2, s.2.2 + 1)
def runP {α : Type} (z : α) (c : Nat) (xs : List α) (ds : List Nat) : Nat → List α × List Nat × Nat
  | 0 => (List.replicate c z, List.replicate c 0, 0)
  | n + 1 => offerP z c (xs.getD n z) (ds.getD n 0) (runP z c xs ds n)
def beforeP (ds : List Nat) (n j i : Nat) : Nat := if n ≤ j ∨ j = i then 0 else if ds.getD j 0 < ds.getD i 0 then 1 else if ds.getD j 0 = ds.getD i 0 ∧ j < i then 1 else 0
def rankP (ds : List Nat) (n i : Nat) : Nat := beforeP ds n 0 i + beforeP ds n 1 i + beforeP ds n 2 i + beforeP ds n 3 i
def okP (c n : Nat) (ds : List Nat) : Bool := decide ((runP 4 c [0, 1, 2, 3] ds n).2.2 = min c n) && (List.range 4).all fun i => !(decide (i < n)) || !(decide (rankP ds n i < c)) || (decide ((runP 4 c [0, 1, 2, 3] ds n).1.getD (rankP ds n i) 4 = i) && decide (rankP ds n i < (runP 4 c [0, 1, 2, 3] ds n).2.2))
theorem all_ok : ((List.range 5).all fun c => (List.range 5).all fun n => (List.range 4).all fun a => (List.range 4).all fun b => (List.range 4).all fun x => (List.range 4).all fun y => okP (c + 1) n [a, b, x, y]) = true := by decide +kernel
theorem ok_at {c n a b x y : Nat} (hc : 1 ≤ c ∧ c ≤ 5) (hn : n ≤ 4) (ha : a < 4) (hb : b < 4) (hx : x < 4) (hy : y < 4) : okP c n [a, b, x, y] = true := by
  have h := all_ok
  simp only [List.all_eq_true, List.mem_range] at h
  have := h (c - 1) (by omega) n (by omega) a ha b hb x hx y hy
  rwa [show c - 1 + 1 = c by omega] at this
theorem getD_map {α β : Type} (g : α → β) (l : List α) (n : Nat) (z : α) : (l.map g).getD n (g z) = g (l.getD n z) := by
  simp only [List.getD_eq_getElem?_getD, List.getElem?_map]
  cases l[n]? <;> rfl
theorem shift_map {α β : Type} (g : α → β) (z : α) (d : Nat) : ∀ (p : Nat) (I : List α) (D : List Nat), shiftP (g z) d p (I.map g) D = ((shiftP z d p I D).1.map g, (shiftP z d p I D).2.1, (shiftP z d p I D).2.2)
  | 0, I, D => rfl
  | p + 1, I, D => by
    unfold shiftP
    by_cases h : d < D.getD p 0
    · rw [if_pos h, if_pos h, getD_map, ← List.map_set]
      exact shift_map g z d p _ _
    · rw [if_neg h, if_neg h]
theorem put_map {α β : Type} (g : α → β) (z x : α) (d p : Nat) (I : List α) (D : List Nat) : putP (g z) (g x) d p (I.map g) D = ((putP z x d p I D).1.map g, (putP z x d p I D).2) := by
  unfold putP
  rw [shift_map]
  simp only [List.map_set]
theorem offer_map {α β : Type} (g : α → β) (z x : α) (c d : Nat) (s : List α × List Nat × Nat) : offerP (g z) c (g x) d (s.1.map g, s.2.1, s.2.2) = ((offerP z c x d s).1.map g, (offerP z c x d s).2.1, (offerP z c x d s).2.2) := by
  unfold offerP
  simp only [put_map]
  by_cases h : c - 1 < s.2.2
  · rw [if_pos h, if_pos h]
    by_cases k : d < s.2.1.getD (c - 1) 0
    · rw [if_pos k, if_pos k]
    · rw [if_neg k, if_neg k]
  · rw [if_neg h, if_neg h]
theorem run_map {α β : Type} (g : α → β) (z : α) (c : Nat) (xs : List α) (ds : List Nat) : ∀ n, runP (g z) c (xs.map g) ds n = ((runP z c xs ds n).1.map g, (runP z c xs ds n).2.1, (runP z c xs ds n).2.2)
  | 0 => by unfold runP; rw [List.map_replicate]
  | n + 1 => by
    show offerP (g z) c ((xs.map g).getD n (g z)) (ds.getD n 0) (runP (g z) c (xs.map g) ds n) = _
    rw [getD_map, run_map g z c xs ds n, offer_map]
    rfl
/-- the law of the list -/
theorem nearL {β : Type} (i0 i1 i2 i3 zz : β) {c n a b x y : Nat} (hc : 1 ≤ c ∧ c ≤ 5) (hn : n ≤ 4) (ha : a < 4) (hb : b < 4) (hx : x < 4) (hy : y < 4) :
    (runP zz c [i0, i1, i2, i3] [a, b, x, y] n).2.2 = min c n ∧ ∀ i, i < 4 → i < n → rankP [a, b, x, y] n i < c → (runP zz c [i0, i1, i2, i3] [a, b, x, y] n).1.getD (rankP [a, b, x, y] n i) zz = [i0, i1, i2, i3].getD i zz ∧ rankP [a, b, x, y] n i < min c n := by
  have h := ok_at hc hn ha hb hx hy
  have e := run_map (fun t : Nat => [i0, i1, i2, i3].getD t zz) 4 c [0, 1, 2, 3] [a, b, x, y] n
  have e1 : runP zz c [i0, i1, i2, i3] [a, b, x, y] n = _ := e
  unfold okP at h
  simp only [Bool.and_eq_true, decide_eq_true_eq, List.all_eq_true, List.mem_range, Bool.or_eq_true, Bool.not_eq_true', decide_eq_false_iff_not] at h
  obtain ⟨h1, h2⟩ := h
  rw [e1]
  refine ⟨h1, fun i hi hin hr => ?_⟩
  rcases h2 i hi with (q | q) | ⟨q1, q2⟩
  · exact absurd hin q
  · exact absurd hr q
  · refine ⟨?_, by rw [h1] at q2; exact q2⟩
    show ((runP 4 c [0, 1, 2, 3] [a, b, x, y] n).1.map (fun t : Nat => [i0, i1, i2, i3].getD t zz)).getD (rankP [a, b, x, y] n i) ((fun t : Nat => [i0, i1, i2, i3].getD t zz) 4) = _
    rw [getD_map, q1]
end Jvm.OwnNear
namespace Jvm.OwnNear
open Jvm.OwnFP Jvm.RoadKit Jvm.Op
/-! between the plain law and the machine's values -/
/-- how a small whole number lies in a double[]: fv is FP.i2d .. , kept a variable so that nothing opens it -/
def FV (fv : Nat → UInt64) : Prop := ∀ n, fv n = FP.i2d (Int32.ofNat n)
abbrev fd (fv : Nat → UInt64) (n : Nat) : Value := .double (fv n)
theorem ofN {a : Nat} (h : a < 4) : (Int32.ofNat a).toInt = (a : Int) := Int32.toInt_ofNat_of_lt (by omega)
theorem fv_zero {fv : Nat → UInt64} (hf : FV fv) : fv 0 = 0 := by rw [hf 0]; decide +kernel
theorem fd_zero {fv : Nat → UInt64} (hf : FV fv) : fd fv 0 = .double 0 := by show Value.double (fv 0) = _; rw [fv_zero hf]
theorem cmpN {fv : Nat → UInt64} (hf : FV fv) {a b : Nat} (ha : a < 4) (hb : b < 4) : FP.dcmp (fv a) (fv b) = some (compare (a : Int) (b : Int)) := by
  rw [hf a, hf b, cmp_dy0 (dy_i2d (Int32.ofNat a)) (dy_i2d (Int32.ofNat b)), ofN ha, ofN hb]
theorem ltG {fv : Nat → UInt64} (hf : FV fv) {a b : Nat} (ha : a < 4) (hb : b < 4) : cmpValue (FP.dcmp (fv a) (fv b)) .g < 0 ↔ a < b := by
  rw [cv_lt_g, cmpN hf ha hb, Option.some.injEq, FP.Core.compare_lt_iff]; omega
theorem gtL {fv : Nat → UInt64} (hf : FV fv) {a b : Nat} (ha : a < 4) (hb : b < 4) : 0 < cmpValue (FP.dcmp (fv a) (fv b)) .l ↔ b < a := by
  rw [cv_gt_l, cmpN hf ha hb, Option.some.injEq, FP.Core.compare_gt_iff]; omega
theorem eqL {fv : Nat → UInt64} (hf : FV fv) {a b : Nat} (ha : a < 4) (hb : b < 4) : cmpValue (FP.dcmp (fv a) (fv b)) .l = 0 ↔ a = b := by
  rw [cv_eq, cmpN hf ha hb, Option.some.injEq, FP.Core.compare_eq_iff]; omega
theorem getI (I : List Int32) (n : Nat) : (I.map Value.int).getD n (.int 0) = .int (I.getD n 0) := getD_map Value.int I n 0
theorem getDd {fv : Nat → UInt64} (hf : FV fv) (D : List Nat) (n : Nat) : (D.map (fd fv)).getD n (.double 0) = .double (fv (D.getD n 0)) := by
  rw [← fd_zero hf]; exact getD_map (fd fv) D n 0
theorem repI (c : Nat) (i : Nat) : ((List.replicate c (0 : Int32)).map Value.int).getD i (.int 0) = ([] : List Value).getD i (.int 0) := by
  rw [getI]
  simp only [List.getD_eq_getElem?_getD, List.getElem?_replicate]
  split <;> rfl
theorem repD {fv : Nat → UInt64} (hf : FV fv) (c : Nat) (i : Nat) : ((List.replicate c 0).map (fd fv)).getD i (.double 0) = ([] : List Value).getD i (.double 0) := by
  rw [getDd hf]
  have : (List.replicate c 0).getD i 0 = 0 := by
    simp only [List.getD_eq_getElem?_getD, List.getElem?_replicate]
    split <;> rfl
  rw [this]; exact fd_zero hf
theorem setD {D : List Nat} {x : Nat} (h : ∀ k, D.getD k 0 < 4) (hx : x < 4) (j : Nat) : ∀ k, (D.set j x).getD k 0 < 4 := fun k => by
  have q := h k
  simp only [List.getD_eq_getElem?_getD, List.getElem?_set] at q ⊢
  split
  · split
    · exact hx
    · exact Nat.zero_lt_succ _
  · exact q
theorem shift_le {α : Type} (z : α) (d : Nat) : ∀ (p : Nat) (I : List α) (D : List Nat), (shiftP z d p I D).2.2 ≤ p
  | 0, I, D => Nat.le_refl _
  | p + 1, I, D => by
    unfold shiftP
    split
    · exact Nat.le_succ_of_le (shift_le z d p _ _)
    · exact Nat.le_refl _
theorem shift_len {α : Type} (z : α) (d : Nat) : ∀ (p : Nat) (I : List α) (D : List Nat), (shiftP z d p I D).1.length = I.length ∧ (shiftP z d p I D).2.1.length = D.length
  | 0, I, D => ⟨rfl, rfl⟩
  | p + 1, I, D => by
    unfold shiftP
    split
    · have := shift_len z d p (I.set (p + 1) (I.getD p z)) (D.set (p + 1) (D.getD p 0))
      rw [List.length_set, List.length_set] at this; exact this
    · exact ⟨rfl, rfl⟩
theorem shift_lt {α : Type} (z : α) (d : Nat) : ∀ (p : Nat) (I : List α) (D : List Nat), (∀ k, D.getD k 0 < 4) → ∀ k, (shiftP z d p I D).2.1.getD k 0 < 4
  | 0, I, D, h => h
  | p + 1, I, D, h => by
    unfold shiftP
    split
    · exact shift_lt z d p _ _ (setD h (h p) _)
    · exact h
theorem offer_inv {α : Type} (z x : α) {c d : Nat} (hc : 1 ≤ c) (hd : d < 4) (s : List α × List Nat × Nat) (h : s.1.length = c ∧ s.2.1.length = c ∧ (∀ k, s.2.1.getD k 0 < 4) ∧ s.2.2 ≤ c) :
    (offerP z c x d s).1.length = c ∧ (offerP z c x d s).2.1.length = c ∧ (∀ k, (offerP z c x d s).2.1.getD k 0 < 4) ∧ (offerP z c x d s).2.2 ≤ c := by
  obtain ⟨h1, h2, h3, h4⟩ := h
  have key : ∀ p, (putP z x d p s.1 s.2.1).1.length = c ∧ (putP z x d p s.1 s.2.1).2.length = c ∧ (∀ k, (putP z x d p s.1 s.2.1).2.getD k 0 < 4) := fun p => by
    have l := shift_len z d p s.1 s.2.1
    unfold putP
    exact ⟨by rw [List.length_set, l.1, h1], by rw [List.length_set, l.2, h2], setD (shift_lt z d p s.1 s.2.1 h3) hd _⟩
  unfold offerP
  by_cases q : c - 1 < s.2.2
  · rw [if_pos q]
    by_cases r : d < s.2.1.getD (c - 1) 0
    · rw [if_pos r]; exact ⟨(key _).1, (key _).2.1, (key _).2.2, h4⟩
    · rw [if_neg r]; exact ⟨h1, h2, h3, h4⟩
  · rw [if_neg q]; exact ⟨(key _).1, (key _).2.1, (key _).2.2, by show s.2.2 + 1 ≤ c; omega⟩
theorem run_inv {α : Type} (z : α) {c : Nat} (hc : 1 ≤ c) (xs : List α) (ds : List Nat) (hds : ∀ k, ds.getD k 0 < 4) : ∀ n, (runP z c xs ds n).1.length = c ∧ (runP z c xs ds n).2.1.length = c ∧ (∀ k, (runP z c xs ds n).2.1.getD k 0 < 4) ∧ (runP z c xs ds n).2.2 ≤ c
  | 0 => ⟨List.length_replicate, List.length_replicate, fun k => by
      show (List.replicate c 0).getD k 0 < 4
      simp only [List.getD_eq_getElem?_getD, List.getElem?_replicate]
      split <;> exact Nat.zero_lt_succ _, Nat.zero_le _⟩
  | n + 1 => offer_inv z _ hc (hds n) _ (run_inv z hc xs ds hds n)
theorem ds4 {a b x y : Nat} (ha : a < 4) (hb : b < 4) (hx : x < 4) (hy : y < 4) : ∀ k, [a, b, x, y].getD k 0 < 4
  | 0 => ha
  | 1 => hb
  | 2 => hx
  | 3 => hy
  | _ + 4 => by show 0 < 4; omega
/-- an index below the length -/
theorem ixb {j z : Int32} {n k : Nat} (hj : j.toInt = (n : Int)) (hz : z.toInt = (k : Int)) (h : n < k) : ¬ j < 0 ∧ j < z := by
  rw [Int32.lt_iff_toInt_lt, Int32.lt_iff_toInt_lt, hj, hz, show (0 : Int32).toInt = 0 by decide]; omega
theorem ixn {j : Int32} {n : Nat} (hj : j.toInt = (n : Int)) : j.toNatClampNeg = n := by unfold Int32.toNatClampNeg; rw [hj]; rfl
theorem pred {j : Int32} {n : Nat} (hj : j.toInt = ((n + 1 : Nat) : Int)) : (j - (1 : Int32)).toInt = (n : Int) ∧ (j + (-1 : Int32)).toInt = (n : Int) := by
  have r := rng32 j
  have a := c_isub j 1; have b := rng32 (j - (1 : Int32)); rw [show (1 : Int32).toInt = 1 by decide] at a
  have c := c_iadd j (-1); have d := rng32 (j + (-1 : Int32)); rw [show (-1 : Int32).toInt = -1 by decide] at c
  constructor <;> omega
theorem lt32 {a b : Int32} {n k : Nat} (ha : a.toInt = (n : Int)) (hb : b.toInt = (k : Int)) : a < b ↔ n < k := by rw [Int32.lt_iff_toInt_lt, ha, hb]; omega
theorem eq32 {a b : Int32} {n k : Nat} (ha : a.toInt = (n : Int)) (hb : b.toInt = (k : Int)) : a = b ↔ n = k := by rw [← Int32.toInt_inj, ha, hb]; omega
theorem add32 {a b : Int32} {n k : Nat} (ha : a.toInt = (n : Int)) (hb : b.toInt = (k : Int)) (h : n + k < 100) : (a + b).toInt = ((n + k : Nat) : Int) := by
  have c := c_iadd a b; have r := rng32 (a + b); rw [ha, hb] at c; omega
theorem mask3 (y : Int32) : ∃ e : Nat, e < 4 ∧ (y &&& (3 : Int32)) = Int32.ofNat e := by
  have m := c_mask y 3 2 (by decide) (by decide)
  refine ⟨(y &&& (3 : Int32)).toInt.toNat, by omega, ?_⟩
  refine Int32.toInt_inj.mp ?_
  rw [Int32.toInt_ofNat_of_lt (by omega)]; omega
theorem mod5 (y : Int32) (h : 0 ≤ y.toInt) : ∃ e : Nat, e < 5 ∧ (y % (5 : Int32)).toInt = (e : Int) := by
  have q := (c_irem y 5 5 (by decide)).1 h
  exact ⟨(y % (5 : Int32)).toInt.toNat, by omega, by omega⟩
theorem mask7 (y : Int32) : 0 ≤ (y &&& (7 : Int32)).toInt := by
  have m := c_mask y 7 3 (by decide) (by decide); omega
theorem take_all {α : Type} {I : List α} {n : Nat} (h : I.length = n) : I.take n = I := by rw [← h]; exact List.take_length
theorem range_get (I : List Int32) (n : Nat) (h : n ≤ I.length) : ((List.range n).map fun i => (I.map Value.int).getD (0 + i) (.int 0)) = (I.take n).map Value.int := by
  apply List.ext_getElem?
  intro i
  by_cases q : i < n
  · have r : i < I.length := by omega
    simp [List.getElem?_map, List.getElem?_range, q, List.getElem?_take, r]
  · simp [List.getElem?_map, List.getElem?_take, q, List.getElem?_eq_none (show (List.range n).length ≤ i by simp; omega)]
theorem take_get {I : List Int32} {n r : Nat} (h : r < n) : (I.take n).getD r 0 = I.getD r 0 := by
  simp only [List.getD_eq_getElem?_getD, List.getElem?_take, if_pos h]
theorem before_le (E : List Nat) (n j i : Nat) : beforeP E n j i ≤ 1 := by
  unfold beforeP
  split
  · omega
  · split
    · omega
    · split <;> omega
theorem shift_yes {α : Type} (z : α) {d n : Nat} (I : List α) (D : List Nat) (h : d < D.getD n 0) : shiftP z d (n + 1) I D = shiftP z d n (I.set (n + 1) (I.getD n z)) (D.set (n + 1) (D.getD n 0)) := if_pos h
theorem shift_no {α : Type} (z : α) {d n : Nat} (I : List α) (D : List Nat) (h : ¬ d < D.getD n 0) : shiftP z d (n + 1) I D = (I, D, n + 1) := if_neg h
/-- what the loop of offer needs at the place n + 1 -/
theorem loopIx {ps cc : Int32} {n cN : Nat} (hps : ps.toInt = ((n + 1 : Nat) : Int)) (hc : cc.toInt = (cN : Int)) (hn : n + 1 < cN) :
    (0 : Int32) < ps ∧ (ps + (-1 : Int32)).toInt = (n : Int) ∧ (¬ (ps - (1 : Int32)) < 0 ∧ (ps - (1 : Int32)) < cc) ∧ (¬ ps < 0 ∧ ps < cc) ∧ ps.toNatClampNeg = n + 1 ∧ (ps - (1 : Int32)).toNatClampNeg = n ∧ n < cN :=
  ⟨(lt32 (n := 0) (k := n + 1) (by decide) hps).mpr (Nat.succ_pos n), (pred hps).2, ixb (pred hps).1 hc (Nat.lt_of_succ_lt hn), ixb hps hc hn, ixn hps, ixn (pred hps).1, Nat.lt_of_succ_lt hn⟩
theorem loopZ {ps : Int32} (hps : ps.toInt = ((0 : Nat) : Int)) : ¬ (0 : Int32) < ps := fun q => Nat.lt_irrefl 0 ((lt32 (n := 0) (k := 0) (by decide) hps).mp q)
theorem loopD {fv : Nat → UInt64} (hf : FV fv) (D : List Nat) {j : Int32} {n : Nat} (h : j.toNatClampNeg = n) : (D.map (fd fv)).getD j.toNatClampNeg (.double (0 : UInt64)) = (.double (fv (D.getD n 0))) := by rw [h]; exact getDd hf D n
theorem loopI (I : List Int32) {j : Int32} {n : Nat} (h : j.toNatClampNeg = n) : (I.map Value.int).getD j.toNatClampNeg (.int (0 : Int32)) = (.int (I.getD n 0)) := by rw [h]; exact getI I n
theorem lastN {cc : Int32} {cN : Nat} (hc : cc.toInt = (cN : Int) ∧ 1 ≤ cN ∧ cN ≤ 5) : (cc - (1 : Int32)).toInt = ((cN - 1 : Nat) : Int) := (pred (n := cN - 1) (by rw [hc.1]; congr 1; omega)).1
theorem lastLt {cN : Nat} (h : 1 ≤ cN) : cN - 1 < cN := by omega
theorem sizeLt {la sz : Int32} {cN szN : Nat} (h : 1 ≤ cN) (hla : la.toInt = ((cN - 1 : Nat) : Int)) (hs : sz.toInt = (szN : Int)) (q : ¬ la < sz) : szN < cN := by rw [lt32 hla hs] at q; omega
theorem small {a b : Nat} (h : a ≤ b) (k : b ≤ 5) : a + 1 < 100 := by omega
theorem nonneg {a : Int32} {n : Nat} (h : a.toInt = (n : Int)) : ¬ a < 0 := by rw [lt32 (k := 0) h (by decide)]; omega
theorem sum4 {r0 r1 r2 r3 : Int32} {a b c d : Nat} (h0 : r0.toInt = (a : Int)) (h1 : r1.toInt = (b : Int)) (h2 : r2.toInt = (c : Int)) (h3 : r3.toInt = (d : Int)) (ha : a ≤ 1) (hb : b ≤ 1) (hc : c ≤ 1) (hd : d ≤ 1) : (r0 + r1 + r2 + r3).toInt = ((a + b + c + d : Nat) : Int) :=
  add32 (add32 (add32 h0 h1 (by omega)) h2 (by omega)) h3 (by omega)
end Jvm.OwnNear
namespace Jvm.Pilot.@@N@@
open Jvm Jvm.ClassFile Sem Op Lib Jvm.Free Jvm.Stand Jvm.LawKit Jvm.RoadKit Bundle Jvm.OwnFP Jvm.OwnKit Jvm.OwnNear Jvm.Pilot.@@N@@.Jvm.D
theorem own_fin {R : List Int32 × List Nat × Nat} {E : List Nat} {X : List Int32} {c n i : Nat} (h : R.2.2 = min c n ∧ ∀ i, i < 4 → i < n → rankP E n i < c → R.1.getD (rankP E n i) 0 = X.getD i 0 ∧ rankP E n i < min c n) (hi : i < 4) : i < n → rankP E n i < c → (R.1.take R.2.2).getD (rankP E n i) 0 = X.getD i 0 ∧ rankP E n i < R.2.2 := fun q r => by
  have k := h.2 i hi q r
  rw [h.1]
  exact ⟨by rw [take_get k.2]; exact k.1, k.2⟩
theorem own_c {y cc : Int32} (h : cc = (1 : Int32) + ((y &&& (7 : Int32)) % (5 : Int32))) : ∃ cN : Nat, cc.toInt = (cN : Int) ∧ 1 ≤ cN ∧ cN ≤ 5 := by
  obtain ⟨e, h1, h2⟩ := mod5 _ (mask7 y)
  exact ⟨1 + e, by rw [h]; exact add32 (show (1 : Int32).toInt = ((1 : Nat) : Int) by decide) h2 (by omega), by omega, by omega⟩
theorem own_n {y nn : Int32} (h : nn = ((y &&& (7 : Int32)) % (5 : Int32))) : nn = 0 ∨ nn = 1 ∨ nn = 2 ∨ nn = 3 ∨ nn = 4 := by
  obtain ⟨e, h1, h2⟩ := mod5 _ (mask7 y)
  rw [← h] at h2
  have : nn.toInt = 0 ∨ nn.toInt = 1 ∨ nn.toInt = 2 ∨ nn.toInt = 3 ∨ nn.toInt = 4 := by omega
  rcases this with q | q | q | q | q
  · exact Or.inl (Int32.toInt_inj.mp q)
  · exact Or.inr (Or.inl (Int32.toInt_inj.mp q))
  · exact Or.inr (Or.inr (Or.inl (Int32.toInt_inj.mp q)))
  · exact Or.inr (Or.inr (Or.inr (Or.inl (Int32.toInt_inj.mp q))))
  · exact Or.inr (Or.inr (Or.inr (Or.inr (Int32.toInt_inj.mp q))))
theorem own_len {sz cc nn : Int32} {cN n : Nat} (hc : cc.toInt = (cN : Int)) (hn : nn.toInt = (n : Int)) (hs : sz.toInt = ((min cN n : Nat) : Int)) : sz = if nn < cc then nn else cc := by
  refine Int32.toInt_inj.mp ?_
  by_cases q : nn < cc
  · rw [if_pos q, hs, hn]; rw [lt32 hn hc] at q; omega
  · rw [if_neg q, hs, hc]; rw [lt32 hn hc] at q; omega
theorem ef_rmMin (m : MethodId) (x0 : Int32) (x1 : Int32) : entryFrame m #[(.int x0), (.int x1)] 2 = mkF m 0 #[.val (.int x0), .val (.int x1)] [] := by first | (simp [entryFrame, mkF, argsToLocals, Value.category]; done) | rfl
theorem d5_0 : decode jdk_29_method_69_code 0 = .ok (.iload_n 0, 1) := by decide +kernel
theorem d5_1 : decode jdk_29_method_69_code 1 = .ok (.iload_n 1, 1) := by decide +kernel
theorem d5_2 : decode jdk_29_method_69_code 2 = .ok (.if_icmp .gt 7, 3) := by decide +kernel
theorem d5_9 : decode jdk_29_method_69_code 9 = .ok (.iload_n 1, 1) := by decide +kernel
theorem d5_10 : decode jdk_29_method_69_code 10 = .ok (.ireturn, 1) := by decide +kernel
theorem d5_5 : decode jdk_29_method_69_code 5 = .ok (.iload_n 0, 1) := by decide +kernel
theorem d5_6 : decode jdk_29_method_69_code 6 = .ok (.goto 4, 3) := by decide +kernel
def QrmMin (Z : State) (p0 : Int32) (p1 : Int32) (h0 : Heap) (n0 : Nat) (v : Option Value) (h : Heap) (L : List Loc) : Prop := v = some (.int (if p1 < p0 then p1 else p0)) ∧ Fr n0 L ∧ h = h0
set_option maxRecDepth 65536 in
set_option maxHeartbeats 40000000 in
theorem rmMin (l : Launch) (Z : State) (a0 : Array Value) (hw : ∀ d ∈ tables_1, d.before a0 Z = true) (ws : List Jvm.Cond) (p0 : Int32) (p1 : Int32) (h0 : Heap) (n0 : Nat) (Z0 : n0 ≤ h0.size) :
    MetFree l (⟨"java/lang/Math", "min", "(II)I"⟩ : MethodName) (head1 (Jvm.Cond.code (⟨"java/lang/Math", "min", "(II)I"⟩ : MethodName) jdk_29_method_69_code 2 (some .int) :: ws) ({ frames := 0, cells := 0, slots := 0, locals := 0 } : Room)) (fun a U => a = #[(.int p0), (.int p1)] ∧ Z.Warmed39 U.vm ∧ U.heap = h0) (fun _ _ _ _ _ => True) (fun _ U o U' => ∃ v L, o = .returned v ∧ QrmMin Z p0 p1 h0 n0 v U'.heap L ∧ FrameEnd U o U' L ({ frames := 0, cells := 0, slots := 0, locals := 0 } : Room).cells ({ frames := 0, cells := 0, slots := 0, locals := 0 } : Room).slots) := by
  refine MetFree.of_bodySF (Jvm.Free.JP.mathPlain rfl (by decide +kernel)) hisR ?_
  intro p e s m args below meth c s₁ Bd hml0 hP hK
  obtain ⟨rfl, hZ, hh⟩ := hP
  have hx := Bd.exec
  have hby := Bd.bytes
  have hml : c.maxLocals = 2 := hml0
  have hown : s.vm.findClass "java/lang/Math" = some m.cls := findClass_of_methodNamed Bd.named
  have hnm := (name_of_methodNamed Bd.named Bd.method).1
  have X0 : Stand p l e ({ frames := 0, cells := 0, slots := 0, locals := 0 } : Room) s m #[(.int p0), (.int p1)] below meth c s₁ [] 0 0 := Stand.of_body Bd
  have e0 : s₁.heap = h0 := by rw [← hh, Bd.state]; rfl
  have N0 := Fr.nil n0
  have pre0 : ∀ t, Steps p.tables e below (s₁.setTop (mkF m 0 #[.val (.int p0), .val (.int p1)] [])) t → Steps p.tables e below (s₁.setTop (entryFrame m #[(.int p0), (.int p1)] 2)) t := fun t k => castTop (ef_rmMin m p0 p1) k
  have a1 : ∀ t, Steps p.tables e below (s₁.setTop (mkF m 2 #[.val (.int p0), .val (.int p1)] [(.int p1), (.int p0)])) t → Steps p.tables e below (s₁.setTop (entryFrame m #[(.int p0), (.int p1)] 2)) t := by
    intro t k
    refine pre0 t ?_
    show Steps p.tables e below (s₁.setTop (mkF m 0 #[.val (.int p0), .val (.int p1)] [])) _
    refine XS.iloadN X0.here hx rfl (hb hby d5_0) rfl ?_
    refine XS.iloadN X0.here hx rfl (hb hby d5_1) rfl ?_
    exact k
  by_cases hc2_2 : p1 < p0
  ·
    have a3 : ∀ t, Steps p.tables e below (s₁.setTop (mkF m 10 #[.val (.int p0), .val (.int p1)] [(.int p1)])) t → Steps p.tables e below (s₁.setTop (entryFrame m #[(.int p0), (.int p1)] 2)) t := by
      intro t k
      refine a1 t ?_
      show Steps p.tables e below (s₁.setTop (mkF m 2 #[.val (.int p0), .val (.int p1)] [(.int p1), (.int p0)])) _
      refine XS.icmpYes X0.here hx rfl (pc0 := 2) (pc' := 9) rfl (hb hby d5_2) rfl (tlt hc2_2).2.2.1 (by decide) (by decide) ?_
      refine XS.iloadN X0.here hx rfl (hb hby d5_9) rfl ?_
      exact k
    obtain ⟨fs, hr, hrun, hended, hW, hsame⟩ := X0.leave (v := some (.int p1)) (fun h => by rw [Bd.returns] at h; cases h)
    refine ⟨_, _, a3 _ ?_, hrun, hended, _, _, rfl, ?_, ⟨_, rfl⟩, hW, hsame.mono (by decide) (by decide)⟩
    · show Steps p.tables e below (s₁.setTop (mkF m 10 #[.val (.int p0), .val (.int p1)] [(.int p1)])) _
      exact retOut X0 hx Bd.returns rfl (Or.inl ⟨rfl, Or.inl rfl, _, rfl⟩) (hb hby d5_10) hr
    · show QrmMin Z p0 p1 h0 n0 _ s₁.heap _
      rw [e0]
      exact ⟨by rw [if_pos hc2_2], N0, rfl⟩
  ·
    have a4 : ∀ t, Steps p.tables e below (s₁.setTop (mkF m 10 #[.val (.int p0), .val (.int p1)] [(.int p0)])) t → Steps p.tables e below (s₁.setTop (entryFrame m #[(.int p0), (.int p1)] 2)) t := by
      intro t k
      refine a1 t ?_
      show Steps p.tables e below (s₁.setTop (mkF m 2 #[.val (.int p0), .val (.int p1)] [(.int p1), (.int p0)])) _
      refine XS.icmpNo X0.here hx rfl (hb hby d5_2) rfl (flt hc2_2).2.2.1 ?_
      refine XS.iloadN X0.here hx rfl (hb hby d5_5) rfl ?_
      refine XS.goto X0.here hx rfl (pc0 := 6) (pc' := 10) rfl (hb hby d5_6) (by decide) (by decide) ?_
      exact k
    obtain ⟨fs, hr, hrun, hended, hW, hsame⟩ := X0.leave (v := some (.int p0)) (fun h => by rw [Bd.returns] at h; cases h)
    refine ⟨_, _, a4 _ ?_, hrun, hended, _, _, rfl, ?_, ⟨_, rfl⟩, hW, hsame.mono (by decide) (by decide)⟩
    · show Steps p.tables e below (s₁.setTop (mkF m 10 #[.val (.int p0), .val (.int p1)] [(.int p0)])) _
      exact retOut X0 hx Bd.returns rfl (Or.inl ⟨rfl, Or.inl rfl, _, rfl⟩) (hb hby d5_10) hr
    · show QrmMin Z p0 p1 h0 n0 _ s₁.heap _
      rw [e0]
      exact ⟨by rw [if_neg hc2_2], N0, rfl⟩
theorem ef_rmNI (m : MethodId) (x0 : Addr) (x1 : Int32) : entryFrame m #[(.ref x0), (.int x1)] 2 = mkF m 0 #[.val (.ref x0), .val (.int x1)] [] := by first | (simp [entryFrame, mkF, argsToLocals, Value.category]; done) | rfl
theorem d1_0 : decode prog_21_method_1_code 0 = .ok (.aload_n 0, 1) := by decide +kernel
theorem d1_1 : decode prog_21_method_1_code 1 = .ok (.invokespecial 1, 3) := by decide +kernel
theorem d1_4 : decode prog_21_method_1_code 4 = .ok (.aload_n 0, 1) := by decide +kernel
theorem d1_5 : decode prog_21_method_1_code 5 = .ok (.iload_n 1, 1) := by decide +kernel
theorem d1_6 : decode prog_21_method_1_code 6 = .ok (.newarray .int, 2) := by decide +kernel
theorem d1_8 : decode prog_21_method_1_code 8 = .ok (.putfield 7, 3) := by decide +kernel
theorem d1_11 : decode prog_21_method_1_code 11 = .ok (.aload_n 0, 1) := by decide +kernel
theorem d1_12 : decode prog_21_method_1_code 12 = .ok (.iload_n 1, 1) := by decide +kernel
theorem d1_13 : decode prog_21_method_1_code 13 = .ok (.newarray .double, 2) := by decide +kernel
theorem d1_15 : decode prog_21_method_1_code 15 = .ok (.putfield 13, 3) := by decide +kernel
theorem d1_18 : decode prog_21_method_1_code 18 = .ok (.return_, 1) := by decide +kernel
theorem own_pn_com_example_tillerfront_tillerfront_engine_Nearest : plainName "com/example/tillerfront/tillerfront/engine/Nearest" = true := by first | (simp [plainName, overriddenIn]; done) | decide +kernel
def QNI (Z : State) (a0_ : Addr) (p1 : Int32) (h0 : Heap) (n0 : Nat) (v : Option Value) (h : Heap) (L : List Loc) : Prop := ∃ (ia da : Addr) (ki kd : ClassId), v = none ∧ Fr n0 L ∧ Keep h0 h [a0_] ∧ Fld Z h a0_ "com/example/tillerfront/tillerfront/engine/Nearest" "indices" "[I" (.ref ia) ∧ Fld Z h a0_ "com/example/tillerfront/tillerfront/engine/Nearest" "distances" "[D" (.ref da) ∧ Fld Z h a0_ "com/example/tillerfront/tillerfront/engine/Nearest" "size" "I" (.int (0 : Int32)) ∧ Arv Z h ia ki .int p1 [] (.int (0 : Int32)) ∧ Arv Z h da kd .double p1 [] (.double (0 : UInt64)) ∧ Exa Z h ia "[I" ∧ n0 ≤ ia ∧ h0.size ≤ ia ∧ n0 ≤ da ∧ h0.size ≤ da ∧ ia ≠ da
set_option maxRecDepth 65536 in
set_option maxHeartbeats 40000000 in
theorem rmNI (l : Launch) (Z : State) (a0 : Array Value) (hw : ∀ d ∈ tables_1, d.before a0 Z = true) (ws : List Jvm.Cond) (a0_ : Addr) (p1 : Int32) (h0 : Heap) (n0 : Nat) (Z0 : n0 ≤ h0.size) (E0 : Exa Z h0 a0_ "com/example/tillerfront/tillerfront/engine/Nearest") (g0 : n0 ≤ a0_) (F0_i : Fld Z h0 a0_ "com/example/tillerfront/tillerfront/engine/Nearest" "indices" "[I" .null) (F0_d : Fld Z h0 a0_ "com/example/tillerfront/tillerfront/engine/Nearest" "distances" "[D" .null) (F0_s : Fld Z h0 a0_ "com/example/tillerfront/tillerfront/engine/Nearest" "size" "I" (.int (0 : Int32))) (hc1 : ¬ p1 < 0) (hc5 : p1.toNatClampNeg ≤ 5) :
    MetFree l (⟨"com/example/tillerfront/tillerfront/engine/Nearest", "<init>", "(I)V"⟩ : MethodName) (head1 (Jvm.Cond.code (⟨"com/example/tillerfront/tillerfront/engine/Nearest", "<init>", "(I)V"⟩ : MethodName) prog_21_method_1_code 2 none :: ws) ({ frames := 1, cells := 2, slots := 10, locals := 12 } : Room)) (fun a U => a = #[(.ref a0_), (.int p1)] ∧ Z.Warmed39 U.vm ∧ U.heap = h0) (fun _ _ _ _ _ => True) (fun _ U o U' => ∃ v L, o = .returned v ∧ QNI Z a0_ p1 h0 n0 v U'.heap L ∧ FrameEnd U o U' L ({ frames := 1, cells := 2, slots := 10, locals := 12 } : Room).cells ({ frames := 1, cells := 2, slots := 10, locals := 12 } : Room).slots) := by
  refine MetFree.of_bodySF (plainFor_of_name own_pn_com_example_tillerfront_tillerfront_engine_Nearest) hisR ?_
  intro p e s m args below meth c s₁ Bd hml0 hP hK
  obtain ⟨rfl, hZ, hh⟩ := hP
  have hx := Bd.exec
  have hby := Bd.bytes
  have hml : c.maxLocals = 2 := hml0
  have hown : s.vm.findClass "com/example/tillerfront/tillerfront/engine/Nearest" = some m.cls := findClass_of_methodNamed Bd.named
  have hnm := (name_of_methodNamed Bd.named Bd.method).1
  have X0 : Stand p l e ({ frames := 1, cells := 2, slots := 10, locals := 12 } : Room) s m #[(.ref a0_), (.int p1)] below meth c s₁ [] 0 0 := Stand.of_body Bd
  have e0 : s₁.heap = h0 := by rw [← hh, Bd.state]; rfl
  have N0 := Fr.nil n0
  have pre0 : ∀ t, Steps p.tables e below (s₁.setTop (mkF m 0 #[.val (.ref a0_), .val (.int p1)] [])) t → Steps p.tables e below (s₁.setTop (entryFrame m #[(.ref a0_), (.int p1)] 2)) t := fun t k => castTop (ef_rmNI m a0_ p1) k
  have a1 : ∀ t, Steps p.tables e below (s₁.setTop (mkF m 1 #[.val (.ref a0_), .val (.int p1)] [(.ref a0_)])) t → Steps p.tables e below (s₁.setTop (entryFrame m #[(.ref a0_), (.int p1)] 2)) t := by
    intro t k
    refine pre0 t ?_
    show Steps p.tables e below (s₁.setTop (mkF m 0 #[.val (.ref a0_), .val (.int p1)] [])) _
    refine XS.aloadN X0.here hx rfl (hb hby d1_0) rfl rfl ?_
    exact k
  obtain ⟨T2, X2, e2, st2⟩ := initO X0 hx hZ hown (hw _ (List.mem_of_getElem? (i := 8) rfl)) (hw _ (List.mem_of_getElem? (i := 9) rfl)) (hw _ (List.mem_of_getElem? (i := 10) rfl)) e0 (g := (mkF m 1 #[.val (.ref a0_), .val (.int p1)] [(.ref a0_)])) rfl (by rw [hml]; rfl) rfl (hb hby d1_1) (by decide) (W := 0) (by show 2 * 0 + _ ≤ _; exact Nat.le_of_eq rfl) (by decide)
  have a3 : ∀ t, Steps p.tables e below (T2.setTop (mkF m 4 #[.val (.ref a0_), .val (.int p1)] [])) t → Steps p.tables e below (s₁.setTop (entryFrame m #[(.ref a0_), (.int p1)] 2)) t := fun t k => a1 t (st2 t k)
  have a4 : ∀ t, Steps p.tables e below (T2.setTop (mkF m 6 #[.val (.ref a0_), .val (.int p1)] [(.int p1), (.ref a0_)])) t → Steps p.tables e below (s₁.setTop (entryFrame m #[(.ref a0_), (.int p1)] 2)) t := by
    intro t k
    refine a3 t ?_
    show Steps p.tables e below (T2.setTop (mkF m 4 #[.val (.ref a0_), .val (.int p1)] [])) _
    refine XS.aloadN X2.here hx rfl (hb hby d1_4) rfl rfl ?_
    refine XS.iloadN X2.here hx rfl (hb hby d1_5) rfl ?_
    exact k
  obtain ⟨T5, h5, kk5, X5, e5, E5, A5, DX5, st5⟩ := newPE X2 hx hZ (hw _ (List.mem_of_getElem? (i := 0) rfl)) e2 (g := (mkF m 6 #[.val (.ref a0_), .val (.int p1)] [(.int p1), (.ref a0_)])) rfl (hb hby d1_6) rfl hc1 (cap := 5) hc5 (by decide) (by decide) (by decide) (ad := "[I") (by decide)
  obtain ⟨b5, g5⟩ : ∃ z, z = h0.size := ⟨_, rfl⟩
  rw [← g5] at A5 DX5 st5
  have g_b5 : n0 ≤ b5 := Nat.le_trans Z0 (Nat.le_of_eq g5.symm)
  have sz_b5 : h0.size ≤ b5 := Nat.le_trans ((Keep.refl h0 [a0_])).1 (Nat.le_of_eq g5.symm)
  have V_b5 : Arv Z h5 b5 kk5 .int p1 [] (.int (0 : Int32)) := (Arv.new A5 hc1)
  have K5 : Keep h0 h5 [a0_] := Keep.ext (Keep.refl h0 [a0_]) E5
  have a6 : ∀ t, Steps p.tables e below (T5.setTop (mkF m 8 #[.val (.ref a0_), .val (.int p1)] [(.ref b5), (.ref a0_)])) t → Steps p.tables e below (s₁.setTop (entryFrame m #[(.ref a0_), (.int p1)] 2)) t := fun t k => a4 t (st5 t k)
  obtain ⟨T7, h7, X7, e7, W7, st7⟩ := putF X5 hx hZ hown (host := "") (Or.inl (hw _ (List.mem_of_getElem? (i := 11) rfl))) Via.refl e5 (F0_i.ext E5) (E0.ext E5) (Or.inr ⟨(hw _ (List.mem_of_getElem? (i := 12) rfl)), rfl, hnm⟩) (hw _ (List.mem_of_getElem? (i := 3) rfl)) (ty := (.array .int)) (by decide) rfl rfl (g := (mkF m 8 #[.val (.ref a0_), .val (.int p1)] [(.ref b5), (.ref a0_)])) rfl rfl (hb hby d1_8)
  have Fw7 := Fld.same W7 (F0_i.ext E5)
  have N7 := Fr.snoc X7 N0 g0
  have K7 : Keep h0 h7 [a0_] := Keep.wr K5 W7 (Or.inl (List.mem_of_getElem? (i := 0) rfl))
  have a8 : ∀ t, Steps p.tables e below (T7.setTop (mkF m 11 #[.val (.ref a0_), .val (.int p1)] [])) t → Steps p.tables e below (s₁.setTop (entryFrame m #[(.ref a0_), (.int p1)] 2)) t := fun t k => a6 t (st7 t k)
  have a9 : ∀ t, Steps p.tables e below (T7.setTop (mkF m 13 #[.val (.ref a0_), .val (.int p1)] [(.int p1), (.ref a0_)])) t → Steps p.tables e below (s₁.setTop (entryFrame m #[(.ref a0_), (.int p1)] 2)) t := by
    intro t k
    refine a8 t ?_
    show Steps p.tables e below (T7.setTop (mkF m 11 #[.val (.ref a0_), .val (.int p1)] [])) _
    refine XS.aloadN X7.here hx rfl (hb hby d1_11) rfl rfl ?_
    refine XS.iloadN X7.here hx rfl (hb hby d1_12) rfl ?_
    exact k
  obtain ⟨T10, h10, kk10, X10, e10, E10, A10, st10⟩ := newP X7 hx hZ (hw _ (List.mem_of_getElem? (i := 1) rfl)) e7 (g := (mkF m 13 #[.val (.ref a0_), .val (.int p1)] [(.int p1), (.ref a0_)])) rfl (hb hby d1_13) rfl hc1 (cap := 5) hc5 (by decide) (by decide) (by decide)
  obtain ⟨b10, g10⟩ : ∃ z, z = h7.size := ⟨_, rfl⟩
  rw [← g10] at A10 st10
  have g_b10 : n0 ≤ b10 := Nat.le_trans (Nat.le_trans (Nat.le_trans Z0 E5.1) (Keep.of_wr W7).1) (Nat.le_of_eq g10.symm)
  have sz_b10 : h0.size ≤ b10 := Nat.le_trans (K7).1 (Nat.le_of_eq g10.symm)
  have V_b10 : Arv Z h10 b10 kk10 .double p1 [] (.double (0 : UInt64)) := (Arv.new A10 hc1)
  have K10 : Keep h0 h10 [a0_] := Keep.ext K7 E10
  have a11 : ∀ t, Steps p.tables e below (T10.setTop (mkF m 15 #[.val (.ref a0_), .val (.int p1)] [(.ref b10), (.ref a0_)])) t → Steps p.tables e below (s₁.setTop (entryFrame m #[(.ref a0_), (.int p1)] 2)) t := fun t k => a9 t (st10 t k)
  obtain ⟨T12, h12, X12, e12, W12, st12⟩ := putF X10 hx hZ hown (host := "") (Or.inl (hw _ (List.mem_of_getElem? (i := 13) rfl))) Via.refl e10 ((Fld.other W7 (F0_d.ext E5) (Or.inr (slot_ne (Or.inr (hw _ (List.mem_of_getElem? (i := 14) rfl))) (Or.inr (hw _ (List.mem_of_getElem? (i := 12) rfl))) (by decide) (t := (.array .double)) (t' := (.array .int)) (by decide) (by decide)))).ext E10) ((Exa.wr W7 (E0.ext E5)).ext E10) (Or.inr ⟨(hw _ (List.mem_of_getElem? (i := 14) rfl)), rfl, hnm⟩) (hw _ (List.mem_of_getElem? (i := 3) rfl)) (ty := (.array .double)) (by decide) rfl rfl (g := (mkF m 15 #[.val (.ref a0_), .val (.int p1)] [(.ref b10), (.ref a0_)])) rfl rfl (hb hby d1_15)
  have Fw12 := Fld.same W12 ((Fld.other W7 (F0_d.ext E5) (Or.inr (slot_ne (Or.inr (hw _ (List.mem_of_getElem? (i := 14) rfl))) (Or.inr (hw _ (List.mem_of_getElem? (i := 12) rfl))) (by decide) (t := (.array .double)) (t' := (.array .int)) (by decide) (by decide)))).ext E10)
  have N12 := Fr.snoc X12 N7 g0
  have K12 : Keep h0 h12 [a0_] := Keep.wr K10 W12 (Or.inl (List.mem_of_getElem? (i := 0) rfl))
  have a13 : ∀ t, Steps p.tables e below (T12.setTop (mkF m 18 #[.val (.ref a0_), .val (.int p1)] [])) t → Steps p.tables e below (s₁.setTop (entryFrame m #[(.ref a0_), (.int p1)] 2)) t := fun t k => a11 t (st12 t k)
  obtain ⟨fs, hr, hrun, hended, hW, hsame⟩ := X12.leave (v := none) (fun _ => rfl)
  refine ⟨_, _, a13 _ ?_, hrun, hended, _, _, rfl, ?_, ⟨_, rfl⟩, hW, hsame.mono (by decide) (by decide)⟩
  · show Steps p.tables e below (T12.setTop (mkF m 18 #[.val (.ref a0_), .val (.int p1)] [])) _
    exact X12.returnOut hx Bd.returns (hb hby d1_18) hr
  · show QNI Z a0_ p1 h0 n0 _ T12.heap _
    rw [e12]
    exact ⟨b5, b10, _, _, rfl, N12, K12, (Fld.other W12 (Fw7.ext E10) (Or.inr (slot_ne (Or.inr (hw _ (List.mem_of_getElem? (i := 12) rfl))) (Or.inr (hw _ (List.mem_of_getElem? (i := 14) rfl))) (by decide) (t := (.array .int)) (t' := (.array .double)) (by decide) (by decide)))), Fw12, (Fld.other W12 ((Fld.other W7 (F0_s.ext E5) (Or.inr (slot_ne (Or.inl (hw _ (List.mem_of_getElem? (i := 21) rfl))) (Or.inr (hw _ (List.mem_of_getElem? (i := 12) rfl))) (by decide) (t := .int) (t' := (.array .int)) (by decide) (by decide)))).ext E10) (Or.inr (slot_ne (Or.inl (hw _ (List.mem_of_getElem? (i := 21) rfl))) (Or.inr (hw _ (List.mem_of_getElem? (i := 14) rfl))) (by decide) (t := .int) (t' := (.array .double)) (by decide) (by decide)))), (Arv.other ((Arv.other V_b5 W7 (Ne.symm (Nat.ne_of_lt (Nat.lt_of_lt_of_le F0_i.lt (Nat.le_of_eq g5.symm))))).ext E10) W12 (Ne.symm (Nat.ne_of_lt (Nat.lt_of_lt_of_le F0_i.lt (Nat.le_of_eq g5.symm))))), (Arv.other V_b10 W12 (Ne.symm (Nat.ne_of_lt (Nat.lt_of_lt_of_le Fw7.lt (Nat.le_of_eq g10.symm))))), (Exa.wr W12 ((Exa.wr W7 DX5).ext E10)), g_b5, sz_b5, g_b10, sz_b10, (Nat.ne_of_lt (Nat.lt_of_lt_of_le (Arv.other V_b5 W7 (Ne.symm (Nat.ne_of_lt (Nat.lt_of_lt_of_le F0_i.lt (Nat.le_of_eq g5.symm))))).lt (Nat.le_of_eq g10.symm)))⟩
theorem d7_57 : decode prog_21_method_2_code 57 = .ok (.iload 5, 2) := by decide +kernel
theorem d7_59 : decode prog_21_method_2_code 59 = .ok (.ifCond .le 55, 3) := by decide +kernel
theorem d7_62 : decode prog_21_method_2_code 62 = .ok (.aload_n 0, 1) := by decide +kernel
theorem d7_63 : decode prog_21_method_2_code 63 = .ok (.getfield 13, 3) := by decide +kernel
theorem d7_66 : decode prog_21_method_2_code 66 = .ok (.iload 5, 2) := by decide +kernel
theorem d7_68 : decode prog_21_method_2_code 68 = .ok (.iconst 1, 1) := by decide +kernel
theorem d7_69 : decode prog_21_method_2_code 69 = .ok (.isub, 1) := by decide +kernel
theorem d7_70 : decode prog_21_method_2_code 70 = .ok (.daload, 1) := by decide +kernel
theorem d7_71 : decode prog_21_method_2_code 71 = .ok (.dload_n 2, 1) := by decide +kernel
theorem d7_72 : decode prog_21_method_2_code 72 = .ok (.dcmp .l, 1) := by decide +kernel
theorem d7_73 : decode prog_21_method_2_code 73 = .ok (.ifCond .le 41, 3) := by decide +kernel
theorem d7_76 : decode prog_21_method_2_code 76 = .ok (.aload_n 0, 1) := by decide +kernel
theorem d7_77 : decode prog_21_method_2_code 77 = .ok (.getfield 7, 3) := by decide +kernel
theorem d7_80 : decode prog_21_method_2_code 80 = .ok (.iload 5, 2) := by decide +kernel
theorem d7_82 : decode prog_21_method_2_code 82 = .ok (.aload_n 0, 1) := by decide +kernel
theorem d7_83 : decode prog_21_method_2_code 83 = .ok (.getfield 7, 3) := by decide +kernel
theorem d7_86 : decode prog_21_method_2_code 86 = .ok (.iload 5, 2) := by decide +kernel
theorem d7_88 : decode prog_21_method_2_code 88 = .ok (.iconst 1, 1) := by decide +kernel
theorem d7_89 : decode prog_21_method_2_code 89 = .ok (.isub, 1) := by decide +kernel
theorem d7_90 : decode prog_21_method_2_code 90 = .ok (.iaload, 1) := by decide +kernel
theorem d7_91 : decode prog_21_method_2_code 91 = .ok (.iastore, 1) := by decide +kernel
theorem d7_92 : decode prog_21_method_2_code 92 = .ok (.aload_n 0, 1) := by decide +kernel
theorem d7_93 : decode prog_21_method_2_code 93 = .ok (.getfield 13, 3) := by decide +kernel
theorem d7_96 : decode prog_21_method_2_code 96 = .ok (.iload 5, 2) := by decide +kernel
theorem d7_98 : decode prog_21_method_2_code 98 = .ok (.aload_n 0, 1) := by decide +kernel
theorem d7_99 : decode prog_21_method_2_code 99 = .ok (.getfield 13, 3) := by decide +kernel
theorem d7_102 : decode prog_21_method_2_code 102 = .ok (.iload 5, 2) := by decide +kernel
theorem d7_104 : decode prog_21_method_2_code 104 = .ok (.iconst 1, 1) := by decide +kernel
theorem d7_105 : decode prog_21_method_2_code 105 = .ok (.isub, 1) := by decide +kernel
theorem d7_106 : decode prog_21_method_2_code 106 = .ok (.daload, 1) := by decide +kernel
theorem d7_107 : decode prog_21_method_2_code 107 = .ok (.dastore, 1) := by decide +kernel
theorem d7_108 : decode prog_21_method_2_code 108 = .ok (.iinc 5 (-1), 3) := by decide +kernel
theorem d7_111 : decode prog_21_method_2_code 111 = .ok (.goto (-54), 3) := by decide +kernel
set_option maxRecDepth 65536 in
set_option maxHeartbeats 40000000 in
theorem lpO {p : Program} {l : Launch} {e : Env} {s : State} {m : MethodId} {below : List Frame} {meth : Method} {c : Code} (Z : State) (a0 : Array Value) (hw : ∀ d ∈ tables_1, d.before a0 Z = true) (hx : p.tables.exec = Jvm.exec) (hZ : Z.Warmed39 s.vm) (hown : s.vm.findClass "com/example/tillerfront/tillerfront/engine/Nearest" = some m.cls) (hby : c.code = prog_21_method_2_code) (hml : c.maxLocals = 6) (a0_ : Addr) (p1 : Int32) (ia da : Addr) (ki kd : ClassId) (cc la sz_ : Int32) (cN dN : Nat) (fv : Nat → UInt64) (hf : FV fv) (h0 : Heap) (n0 : Nat) (g0 : n0 ≤ a0_) (g1 : n0 ≤ ia) (g2 : n0 ≤ da) (ne1 : a0_ ≠ ia) (ne2 : a0_ ≠ da) (ne3 : ia ≠ da) (hc : cc.toInt = (cN : Int) ∧ 1 ≤ cN ∧ cN ≤ 5) (hd : dN < 4) :
    ∀ (n : Nat) (ps : Int32) (s₁ : State) (Lc : List Loc) (hH : Heap) (I : List Int32) (D : List Nat) (R : List Int32 × List Nat × Nat), R = shiftP 0 dN n I D → Stand p l e ({ frames := 0, cells := 0, slots := 0, locals := 0 } : Room) s m #[(.ref a0_), (.int p1), (.double (fv dN))] below meth c s₁ Lc 0 0 → s₁.heap = hH → n0 ≤ hH.size → Keep h0 hH [a0_, ia, da] → Fr n0 Lc → Fld Z hH a0_ "com/example/tillerfront/tillerfront/engine/Nearest" "indices" "[I" (.ref ia) → Fld Z hH a0_ "com/example/tillerfront/tillerfront/engine/Nearest" "distances" "[D" (.ref da) → Fld Z hH a0_ "com/example/tillerfront/tillerfront/engine/Nearest" "size" "I" (.int sz_) → Arv Z hH ia ki .int cc (I.map Value.int) (.int (0 : Int32)) → Arv Z hH da kd .double cc (D.map (fd fv)) (.double (0 : UInt64)) → ps.toInt = (n : Int) → n < cN → I.length = cN → D.length = cN → (∀ k, D.getD k 0 < 4) →
    ∃ (T' : State) (L' : List Loc) (h' : Heap) (ps' : Int32), Stand p l e ({ frames := 0, cells := 0, slots := 0, locals := 0 } : Room) s m #[(.ref a0_), (.int p1), (.double (fv dN))] below meth c T' L' 0 0 ∧ T'.heap = h' ∧ n0 ≤ h'.size ∧ Keep h0 h' [a0_, ia, da] ∧ Fr n0 L' ∧ Fld Z h' a0_ "com/example/tillerfront/tillerfront/engine/Nearest" "indices" "[I" (.ref ia) ∧ Fld Z h' a0_ "com/example/tillerfront/tillerfront/engine/Nearest" "distances" "[D" (.ref da) ∧ Fld Z h' a0_ "com/example/tillerfront/tillerfront/engine/Nearest" "size" "I" (.int sz_) ∧ Arv Z h' ia ki .int cc (R.1.map Value.int) (.int (0 : Int32)) ∧ Arv Z h' da kd .double cc (R.2.1.map (fd fv)) (.double (0 : UInt64)) ∧ ps'.toInt = (R.2.2 : Int) ∧ ∀ t, Steps p.tables e below (T'.setTop (mkF m 114 #[.val (.ref a0_), .val (.int p1), .val (.double (fv dN)), .second, .val (.int la), .val (.int ps')] [])) t → Steps p.tables e below (s₁.setTop (mkF m 57 #[.val (.ref a0_), .val (.int p1), .val (.double (fv dN)), .second, .val (.int la), .val (.int ps)] [])) t := by
  intro n
  induction n with
  | zero =>
    intro ps s₁ Lc hH I D R hR X0 e0 Z0 K0 N0 F1 F2 F3 PI PD hps hn hI hDl hD
    have pre0 : ∀ t, Steps p.tables e below (s₁.setTop (mkF m 57 #[.val (.ref a0_), .val (.int p1), .val (.double (fv dN)), .second, .val (.int la), .val (.int ps)] [])) t → Steps p.tables e below (s₁.setTop (mkF m 57 #[.val (.ref a0_), .val (.int p1), .val (.double (fv dN)), .second, .val (.int la), .val (.int ps)] [])) t := fun t k => k
    have hneg : ¬ (0 : Int32) < ps := loopZ hps
    have a1 : ∀ t, Steps p.tables e below (s₁.setTop (mkF m 114 #[.val (.ref a0_), .val (.int p1), .val (.double (fv dN)), .second, .val (.int la), .val (.int ps)] [])) t → Steps p.tables e below (s₁.setTop (mkF m 57 #[.val (.ref a0_), .val (.int p1), .val (.double (fv dN)), .second, .val (.int la), .val (.int ps)] [])) t := by
      intro t k
      refine pre0 t ?_
      show Steps p.tables e below (s₁.setTop (mkF m 57 #[.val (.ref a0_), .val (.int p1), .val (.double (fv dN)), .second, .val (.int la), .val (.int ps)] [])) _
      refine XS.iload X0.here hx rfl (hb hby d7_57) rfl ?_
      refine XS.ifYes X0.here hx rfl (pc0 := 59) (pc' := 114) rfl (hb hby d7_59) rfl ((if0 _ _).trans (flt hneg).2.2.2) (by decide) (by decide) ?_
      exact k
    subst hR
    exact ⟨s₁, _, hH, ps, X0, e0, Z0, K0, N0, F1, F2, F3, PI, PD, hps, a1⟩
  | succ n ih =>
    intro ps s₁ Lc hH I D R hR X0 e0 Z0 K0 N0 F1 F2 F3 PI PD hps hn hI hDl hD
    have pre0 : ∀ t, Steps p.tables e below (s₁.setTop (mkF m 57 #[.val (.ref a0_), .val (.int p1), .val (.double (fv dN)), .second, .val (.int la), .val (.int ps)] [])) t → Steps p.tables e below (s₁.setTop (mkF m 57 #[.val (.ref a0_), .val (.int p1), .val (.double (fv dN)), .second, .val (.int la), .val (.int ps)] [])) t := fun t k => k
    obtain ⟨hpos, hpr, ib1, ib0, tn0, tn1, hnc⟩ := loopIx hps hc.1 hn
    have ud : (D.map (fd fv)).getD (ps - (1 : Int32)).toNatClampNeg (.double (0 : UInt64)) = (.double (fv (D.getD n 0))) := loopD hf D tn1
    have ui : (I.map Value.int).getD (ps - (1 : Int32)).toNatClampNeg (.int (0 : Int32)) = (.int (I.getD n 0)) := loopI I tn1
    have a1 : ∀ t, Steps p.tables e below (s₁.setTop (mkF m 63 #[.val (.ref a0_), .val (.int p1), .val (.double (fv dN)), .second, .val (.int la), .val (.int ps)] [(.ref a0_)])) t → Steps p.tables e below (s₁.setTop (mkF m 57 #[.val (.ref a0_), .val (.int p1), .val (.double (fv dN)), .second, .val (.int la), .val (.int ps)] [])) t := by
      intro t k
      refine pre0 t ?_
      show Steps p.tables e below (s₁.setTop (mkF m 57 #[.val (.ref a0_), .val (.int p1), .val (.double (fv dN)), .second, .val (.int la), .val (.int ps)] [])) _
      refine XS.iload X0.here hx rfl (hb hby d7_57) rfl ?_
      refine XS.ifNo X0.here hx rfl (hb hby d7_59) rfl ((if0 _ _).trans (tlt hpos).2.2.2) ?_
      refine XS.aloadN X0.here hx rfl (hb hby d7_62) rfl rfl ?_
      exact k
    obtain ⟨T2, X2, e2, st2⟩ := getF X0 hx hZ hown (host := "") (Or.inl (hw _ (List.mem_of_getElem? (i := 13) rfl))) Via.refl e0 F2 (g := (mkF m 63 #[.val (.ref a0_), .val (.int p1), .val (.double (fv dN)), .second, .val (.int la), .val (.int ps)] [(.ref a0_)])) rfl rfl (hb hby d7_63)
    have a3 : ∀ t, Steps p.tables e below (T2.setTop (mkF m 66 #[.val (.ref a0_), .val (.int p1), .val (.double (fv dN)), .second, .val (.int la), .val (.int ps)] [(.ref da)])) t → Steps p.tables e below (s₁.setTop (mkF m 57 #[.val (.ref a0_), .val (.int p1), .val (.double (fv dN)), .second, .val (.int la), .val (.int ps)] [])) t := fun t k => a1 t (st2 t k)
    have a4 : ∀ t, Steps p.tables e below (T2.setTop (mkF m 70 #[.val (.ref a0_), .val (.int p1), .val (.double (fv dN)), .second, .val (.int la), .val (.int ps)] [(.int (ps - (1 : Int32))), (.ref da)])) t → Steps p.tables e below (s₁.setTop (mkF m 57 #[.val (.ref a0_), .val (.int p1), .val (.double (fv dN)), .second, .val (.int la), .val (.int ps)] [])) t := by
      intro t k
      refine a3 t ?_
      show Steps p.tables e below (T2.setTop (mkF m 66 #[.val (.ref a0_), .val (.int p1), .val (.double (fv dN)), .second, .val (.int la), .val (.int ps)] [(.ref da)])) _
      refine XS.iload X2.here hx rfl (hb hby d7_66) rfl ?_
      refine XS.iconst X2.here hx rfl (hb hby d7_68) ?_
      refine XS.isub X2.here hx rfl (hb hby d7_69) rfl ?_
      exact k
    obtain ⟨cl5, Ar5, qc5, Sz5, Nn5, Hs5, Gs5⟩ := id PD
    have hin5 : ¬ ((ps - (1 : Int32)) < 0 ∨ cl5.slots.size ≤ ((ps - (1 : Int32))).toNatClampNeg) := inb_of Sz5 ib1
    have hat5 := Hs5.at hin5 (v := (.double (fv (D.getD n 0)))) ud
    have a6 : ∀ t, Steps p.tables e below (T2.setTop (mkF m 73 #[.val (.ref a0_), .val (.int p1), .val (.double (fv dN)), .second, .val (.int la), .val (.int ps)] [(.int (cmpValue (FP.dcmp (fv (D.getD n 0)) (fv dN)) .l))])) t → Steps p.tables e below (s₁.setTop (mkF m 57 #[.val (.ref a0_), .val (.int p1), .val (.double (fv dN)), .second, .val (.int la), .val (.int ps)] [])) t := by
      intro t k
      refine a4 t ?_
      show Steps p.tables e below (T2.setTop (mkF m 70 #[.val (.ref a0_), .val (.int p1), .val (.double (fv dN)), .second, .val (.int la), .val (.int ps)] [(.int (ps - (1 : Int32))), (.ref da)])) _
      refine X2.daload hx (j := (ps - (1 : Int32))) (v := (.double (fv (D.getD n 0)))) (by rw [e2]; exact Ar5.1) (State.isArrayOf_alike hZ.alike Ar5.2.1) Ar5.2.2 hin5 hat5 (g := (mkF m 70 #[.val (.ref a0_), .val (.int p1), .val (.double (fv dN)), .second, .val (.int la), .val (.int ps)] [(.int (ps - (1 : Int32))), (.ref da)])) rfl rfl (hb hby d7_70) _ ?_
      refine XS.dloadN X2.here hx rfl (hb hby d7_71) rfl ?_
      refine XS.dcmpS X2.here hx rfl (hb hby d7_72) rfl rfl ?_
      exact k
    by_cases hc73_7 : (0 : Int32) < (cmpValue (FP.dcmp (fv (D.getD n 0)) (fv dN)) .l)
    ·
      have a8 : ∀ t, Steps p.tables e below (T2.setTop (mkF m 77 #[.val (.ref a0_), .val (.int p1), .val (.double (fv dN)), .second, .val (.int la), .val (.int ps)] [(.ref a0_)])) t → Steps p.tables e below (s₁.setTop (mkF m 57 #[.val (.ref a0_), .val (.int p1), .val (.double (fv dN)), .second, .val (.int la), .val (.int ps)] [])) t := by
        intro t k
        refine a6 t ?_
        show Steps p.tables e below (T2.setTop (mkF m 73 #[.val (.ref a0_), .val (.int p1), .val (.double (fv dN)), .second, .val (.int la), .val (.int ps)] [(.int (cmpValue (FP.dcmp (fv (D.getD n 0)) (fv dN)) .l))])) _
        refine XS.ifNo X2.here hx rfl (hb hby d7_73) rfl ((if0 _ _).trans (tlt hc73_7).2.2.2) ?_
        refine XS.aloadN X2.here hx rfl (hb hby d7_76) rfl rfl ?_
        exact k
      obtain ⟨T9, X9, e9, st9⟩ := getF X2 hx hZ hown (host := "") (Or.inl (hw _ (List.mem_of_getElem? (i := 11) rfl))) Via.refl e2 F1 (g := (mkF m 77 #[.val (.ref a0_), .val (.int p1), .val (.double (fv dN)), .second, .val (.int la), .val (.int ps)] [(.ref a0_)])) rfl rfl (hb hby d7_77)
      have a10 : ∀ t, Steps p.tables e below (T9.setTop (mkF m 80 #[.val (.ref a0_), .val (.int p1), .val (.double (fv dN)), .second, .val (.int la), .val (.int ps)] [(.ref ia)])) t → Steps p.tables e below (s₁.setTop (mkF m 57 #[.val (.ref a0_), .val (.int p1), .val (.double (fv dN)), .second, .val (.int la), .val (.int ps)] [])) t := fun t k => a8 t (st9 t k)
      have a11 : ∀ t, Steps p.tables e below (T9.setTop (mkF m 83 #[.val (.ref a0_), .val (.int p1), .val (.double (fv dN)), .second, .val (.int la), .val (.int ps)] [(.ref a0_), (.int ps), (.ref ia)])) t → Steps p.tables e below (s₁.setTop (mkF m 57 #[.val (.ref a0_), .val (.int p1), .val (.double (fv dN)), .second, .val (.int la), .val (.int ps)] [])) t := by
        intro t k
        refine a10 t ?_
        show Steps p.tables e below (T9.setTop (mkF m 80 #[.val (.ref a0_), .val (.int p1), .val (.double (fv dN)), .second, .val (.int la), .val (.int ps)] [(.ref ia)])) _
        refine XS.iload X9.here hx rfl (hb hby d7_80) rfl ?_
        refine XS.aloadN X9.here hx rfl (hb hby d7_82) rfl rfl ?_
        exact k
      obtain ⟨T12, X12, e12, st12⟩ := getF X9 hx hZ hown (host := "") (Or.inl (hw _ (List.mem_of_getElem? (i := 11) rfl))) Via.refl e9 F1 (g := (mkF m 83 #[.val (.ref a0_), .val (.int p1), .val (.double (fv dN)), .second, .val (.int la), .val (.int ps)] [(.ref a0_), (.int ps), (.ref ia)])) rfl rfl (hb hby d7_83)
      have a13 : ∀ t, Steps p.tables e below (T12.setTop (mkF m 86 #[.val (.ref a0_), .val (.int p1), .val (.double (fv dN)), .second, .val (.int la), .val (.int ps)] [(.ref ia), (.int ps), (.ref ia)])) t → Steps p.tables e below (s₁.setTop (mkF m 57 #[.val (.ref a0_), .val (.int p1), .val (.double (fv dN)), .second, .val (.int la), .val (.int ps)] [])) t := fun t k => a11 t (st12 t k)
      have a14 : ∀ t, Steps p.tables e below (T12.setTop (mkF m 90 #[.val (.ref a0_), .val (.int p1), .val (.double (fv dN)), .second, .val (.int la), .val (.int ps)] [(.int (ps - (1 : Int32))), (.ref ia), (.int ps), (.ref ia)])) t → Steps p.tables e below (s₁.setTop (mkF m 57 #[.val (.ref a0_), .val (.int p1), .val (.double (fv dN)), .second, .val (.int la), .val (.int ps)] [])) t := by
        intro t k
        refine a13 t ?_
        show Steps p.tables e below (T12.setTop (mkF m 86 #[.val (.ref a0_), .val (.int p1), .val (.double (fv dN)), .second, .val (.int la), .val (.int ps)] [(.ref ia), (.int ps), (.ref ia)])) _
        refine XS.iload X12.here hx rfl (hb hby d7_86) rfl ?_
        refine XS.iconst X12.here hx rfl (hb hby d7_88) ?_
        refine XS.isub X12.here hx rfl (hb hby d7_89) rfl ?_
        exact k
      obtain ⟨cl15, Ar15, qc15, Sz15, Nn15, Hs15, Gs15⟩ := id PI
      have hin15 : ¬ ((ps - (1 : Int32)) < 0 ∨ cl15.slots.size ≤ ((ps - (1 : Int32))).toNatClampNeg) := inb_of Sz15 ib1
      have hat15 := Hs15.at hin15 (v := (.int (I.getD n 0))) ui
      have a16 : ∀ t, Steps p.tables e below (T12.setTop (mkF m 91 #[.val (.ref a0_), .val (.int p1), .val (.double (fv dN)), .second, .val (.int la), .val (.int ps)] [(.int (I.getD n 0)), (.int ps), (.ref ia)])) t → Steps p.tables e below (s₁.setTop (mkF m 57 #[.val (.ref a0_), .val (.int p1), .val (.double (fv dN)), .second, .val (.int la), .val (.int ps)] [])) t := by
        intro t k
        refine a14 t ?_
        show Steps p.tables e below (T12.setTop (mkF m 90 #[.val (.ref a0_), .val (.int p1), .val (.double (fv dN)), .second, .val (.int la), .val (.int ps)] [(.int (ps - (1 : Int32))), (.ref ia), (.int ps), (.ref ia)])) _
        refine X12.iaload hx (j := (ps - (1 : Int32))) (v := (.int (I.getD n 0))) (by rw [e12]; exact Ar15.1) (State.isArrayOf_alike hZ.alike Ar15.2.1) Ar15.2.2 hin15 hat15 (g := (mkF m 90 #[.val (.ref a0_), .val (.int p1), .val (.double (fv dN)), .second, .val (.int la), .val (.int ps)] [(.int (ps - (1 : Int32))), (.ref ia), (.int ps), (.ref ia)])) rfl rfl (hb hby d7_90) _ ?_
        exact k
      obtain ⟨cl17, Ar17, qc17, Sz17, Nn17, Hs17, Gs17⟩ := id PI
      have hin17 : ¬ (ps < 0 ∨ cl17.slots.size ≤ (ps).toNatClampNeg) := inb_of Sz17 ib0
      obtain ⟨T18, h18, X18, e18, W18, st18⟩ := stI X12 hx hZ e12 Ar17 (j := ps) hin17 (g := (mkF m 91 #[.val (.ref a0_), .val (.int p1), .val (.double (fv dN)), .second, .val (.int la), .val (.int ps)] [(.int (I.getD n 0)), (.int ps), (.ref ia)])) rfl rfl (hb hby d7_91)
      have V18 : Arv Z h18 ia ki .int cc ((I.map Value.int).set (n + 1) (.int (I.getD n 0))) (.int (0 : Int32)) := Arv.set Ar17 qc17 Sz17 Nn17 Hs17 Gs17 rfl W18 (n + 1) tn0 (by rw [List.length_map, hI]; exact hn)
      have N18 := Fr.snoc X18 N0 g1
      have K18 : Keep h0 h18 [a0_, ia, da] := Keep.wr K0 W18 (Or.inl (List.mem_of_getElem? (i := 1) rfl))
      have a19 : ∀ t, Steps p.tables e below (T18.setTop (mkF m 92 #[.val (.ref a0_), .val (.int p1), .val (.double (fv dN)), .second, .val (.int la), .val (.int ps)] [])) t → Steps p.tables e below (s₁.setTop (mkF m 57 #[.val (.ref a0_), .val (.int p1), .val (.double (fv dN)), .second, .val (.int la), .val (.int ps)] [])) t := fun t k => a16 t (st18 t k)
      have a20 : ∀ t, Steps p.tables e below (T18.setTop (mkF m 93 #[.val (.ref a0_), .val (.int p1), .val (.double (fv dN)), .second, .val (.int la), .val (.int ps)] [(.ref a0_)])) t → Steps p.tables e below (s₁.setTop (mkF m 57 #[.val (.ref a0_), .val (.int p1), .val (.double (fv dN)), .second, .val (.int la), .val (.int ps)] [])) t := by
        intro t k
        refine a19 t ?_
        show Steps p.tables e below (T18.setTop (mkF m 92 #[.val (.ref a0_), .val (.int p1), .val (.double (fv dN)), .second, .val (.int la), .val (.int ps)] [])) _
        refine XS.aloadN X18.here hx rfl (hb hby d7_92) rfl rfl ?_
        exact k
      obtain ⟨T21, X21, e21, st21⟩ := getF X18 hx hZ hown (host := "") (Or.inl (hw _ (List.mem_of_getElem? (i := 13) rfl))) Via.refl e18 (Fld.other W18 F2 (Or.inl ne1)) (g := (mkF m 93 #[.val (.ref a0_), .val (.int p1), .val (.double (fv dN)), .second, .val (.int la), .val (.int ps)] [(.ref a0_)])) rfl rfl (hb hby d7_93)
      have a22 : ∀ t, Steps p.tables e below (T21.setTop (mkF m 96 #[.val (.ref a0_), .val (.int p1), .val (.double (fv dN)), .second, .val (.int la), .val (.int ps)] [(.ref da)])) t → Steps p.tables e below (s₁.setTop (mkF m 57 #[.val (.ref a0_), .val (.int p1), .val (.double (fv dN)), .second, .val (.int la), .val (.int ps)] [])) t := fun t k => a20 t (st21 t k)
      have a23 : ∀ t, Steps p.tables e below (T21.setTop (mkF m 99 #[.val (.ref a0_), .val (.int p1), .val (.double (fv dN)), .second, .val (.int la), .val (.int ps)] [(.ref a0_), (.int ps), (.ref da)])) t → Steps p.tables e below (s₁.setTop (mkF m 57 #[.val (.ref a0_), .val (.int p1), .val (.double (fv dN)), .second, .val (.int la), .val (.int ps)] [])) t := by
        intro t k
        refine a22 t ?_
        show Steps p.tables e below (T21.setTop (mkF m 96 #[.val (.ref a0_), .val (.int p1), .val (.double (fv dN)), .second, .val (.int la), .val (.int ps)] [(.ref da)])) _
        refine XS.iload X21.here hx rfl (hb hby d7_96) rfl ?_
        refine XS.aloadN X21.here hx rfl (hb hby d7_98) rfl rfl ?_
        exact k
      obtain ⟨T24, X24, e24, st24⟩ := getF X21 hx hZ hown (host := "") (Or.inl (hw _ (List.mem_of_getElem? (i := 13) rfl))) Via.refl e21 (Fld.other W18 F2 (Or.inl ne1)) (g := (mkF m 99 #[.val (.ref a0_), .val (.int p1), .val (.double (fv dN)), .second, .val (.int la), .val (.int ps)] [(.ref a0_), (.int ps), (.ref da)])) rfl rfl (hb hby d7_99)
      have a25 : ∀ t, Steps p.tables e below (T24.setTop (mkF m 102 #[.val (.ref a0_), .val (.int p1), .val (.double (fv dN)), .second, .val (.int la), .val (.int ps)] [(.ref da), (.int ps), (.ref da)])) t → Steps p.tables e below (s₁.setTop (mkF m 57 #[.val (.ref a0_), .val (.int p1), .val (.double (fv dN)), .second, .val (.int la), .val (.int ps)] [])) t := fun t k => a23 t (st24 t k)
      have a26 : ∀ t, Steps p.tables e below (T24.setTop (mkF m 106 #[.val (.ref a0_), .val (.int p1), .val (.double (fv dN)), .second, .val (.int la), .val (.int ps)] [(.int (ps - (1 : Int32))), (.ref da), (.int ps), (.ref da)])) t → Steps p.tables e below (s₁.setTop (mkF m 57 #[.val (.ref a0_), .val (.int p1), .val (.double (fv dN)), .second, .val (.int la), .val (.int ps)] [])) t := by
        intro t k
        refine a25 t ?_
        show Steps p.tables e below (T24.setTop (mkF m 102 #[.val (.ref a0_), .val (.int p1), .val (.double (fv dN)), .second, .val (.int la), .val (.int ps)] [(.ref da), (.int ps), (.ref da)])) _
        refine XS.iload X24.here hx rfl (hb hby d7_102) rfl ?_
        refine XS.iconst X24.here hx rfl (hb hby d7_104) ?_
        refine XS.isub X24.here hx rfl (hb hby d7_105) rfl ?_
        exact k
      obtain ⟨cl27, Ar27, qc27, Sz27, Nn27, Hs27, Gs27⟩ := id (Arv.other PD W18 (Ne.symm ne3))
      have hin27 : ¬ ((ps - (1 : Int32)) < 0 ∨ cl27.slots.size ≤ ((ps - (1 : Int32))).toNatClampNeg) := inb_of Sz27 ib1
      have hat27 := Hs27.at hin27 (v := (.double (fv (D.getD n 0)))) ud
      have a28 : ∀ t, Steps p.tables e below (T24.setTop (mkF m 107 #[.val (.ref a0_), .val (.int p1), .val (.double (fv dN)), .second, .val (.int la), .val (.int ps)] [(.double (fv (D.getD n 0))), (.int ps), (.ref da)])) t → Steps p.tables e below (s₁.setTop (mkF m 57 #[.val (.ref a0_), .val (.int p1), .val (.double (fv dN)), .second, .val (.int la), .val (.int ps)] [])) t := by
        intro t k
        refine a26 t ?_
        show Steps p.tables e below (T24.setTop (mkF m 106 #[.val (.ref a0_), .val (.int p1), .val (.double (fv dN)), .second, .val (.int la), .val (.int ps)] [(.int (ps - (1 : Int32))), (.ref da), (.int ps), (.ref da)])) _
        refine X24.daload hx (j := (ps - (1 : Int32))) (v := (.double (fv (D.getD n 0)))) (by rw [e24]; exact Ar27.1) (State.isArrayOf_alike hZ.alike Ar27.2.1) Ar27.2.2 hin27 hat27 (g := (mkF m 106 #[.val (.ref a0_), .val (.int p1), .val (.double (fv dN)), .second, .val (.int la), .val (.int ps)] [(.int (ps - (1 : Int32))), (.ref da), (.int ps), (.ref da)])) rfl rfl (hb hby d7_106) _ ?_
        exact k
      obtain ⟨cl29, Ar29, qc29, Sz29, Nn29, Hs29, Gs29⟩ := id (Arv.other PD W18 (Ne.symm ne3))
      have hin29 : ¬ (ps < 0 ∨ cl29.slots.size ≤ (ps).toNatClampNeg) := inb_of Sz29 ib0
      obtain ⟨T30, h30, X30, e30, W30, st30⟩ := stD X24 hx hZ e24 Ar29 (j := ps) hin29 (g := (mkF m 107 #[.val (.ref a0_), .val (.int p1), .val (.double (fv dN)), .second, .val (.int la), .val (.int ps)] [(.double (fv (D.getD n 0))), (.int ps), (.ref da)])) rfl rfl (hb hby d7_107)
      have V30 : Arv Z h30 da kd .double cc ((D.map (fd fv)).set (n + 1) (.double (fv (D.getD n 0)))) (.double (0 : UInt64)) := Arv.set Ar29 qc29 Sz29 Nn29 Hs29 Gs29 rfl W30 (n + 1) tn0 (by rw [List.length_map, hDl]; exact hn)
      have N30 := Fr.snoc X30 N18 g2
      have K30 : Keep h0 h30 [a0_, ia, da] := Keep.wr K18 W30 (Or.inl (List.mem_of_getElem? (i := 2) rfl))
      have a31 : ∀ t, Steps p.tables e below (T30.setTop (mkF m 108 #[.val (.ref a0_), .val (.int p1), .val (.double (fv dN)), .second, .val (.int la), .val (.int ps)] [])) t → Steps p.tables e below (s₁.setTop (mkF m 57 #[.val (.ref a0_), .val (.int p1), .val (.double (fv dN)), .second, .val (.int la), .val (.int ps)] [])) t := fun t k => a28 t (st30 t k)
      have a32 : ∀ t, Steps p.tables e below (T30.setTop (mkF m 57 #[.val (.ref a0_), .val (.int p1), .val (.double (fv dN)), .second, .val (.int la), .val (.int (ps + (-1 : Int32)))] [])) t → Steps p.tables e below (s₁.setTop (mkF m 57 #[.val (.ref a0_), .val (.int p1), .val (.double (fv dN)), .second, .val (.int la), .val (.int ps)] [])) t := by
        intro t k
        refine a31 t ?_
        show Steps p.tables e below (T30.setTop (mkF m 108 #[.val (.ref a0_), .val (.int p1), .val (.double (fv dN)), .second, .val (.int la), .val (.int ps)] [])) _
        refine XS.iinc X30.here hx rfl (hb hby d7_108) rfl (l' := #[.val (.ref a0_), .val (.int p1), .val (.double (fv dN)), .second, .val (.int la), .val (.int (ps + (-1 : Int32)))]) rfl ?_
        refine XS.goto X30.here hx rfl (pc0 := 111) (pc' := 57) rfl (hb hby d7_111) (by decide) (by decide) ?_
        exact k
      have hR' : R = shiftP 0 dN n (I.set (n + 1) (I.getD n 0)) (D.set (n + 1) (D.getD n 0)) := hR.trans (shift_yes _ I D ((gtL hf (hD n) hd).mp hc73_7))
      obtain ⟨T', L', h', ps', x1, x2, x3, x4, x5, f1, f2, f3, q1, q2, q3, q4⟩ := ih (ps + (-1 : Int32)) T30 _ h30 (I.set (n + 1) (I.getD n 0)) (D.set (n + 1) (D.getD n 0)) R hR' X30 e30 (Nat.le_trans (Nat.le_trans Z0 (Keep.of_wr W18).1) (Keep.of_wr W30).1) K30 N30 (Fld.other W30 (Fld.other W18 F1 (Or.inl ne1)) (Or.inl ne2)) (Fld.other W30 (Fld.other W18 F2 (Or.inl ne1)) (Or.inl ne2)) (Fld.other W30 (Fld.other W18 F3 (Or.inl ne1)) (Or.inl ne2)) (by rw [List.map_set]; exact (Arv.other V18 W30 ne3)) (by rw [List.map_set]; exact V30) hpr hnc (List.length_set.trans hI) (List.length_set.trans hDl) (setD hD (hD n) _)
      exact ⟨T', L', h', ps', x1, x2, x3, x4, x5, f1, f2, f3, q1, q2, q3, fun t k => a32 t (q4 t k)⟩
    ·
      have a33 : ∀ t, Steps p.tables e below (T2.setTop (mkF m 114 #[.val (.ref a0_), .val (.int p1), .val (.double (fv dN)), .second, .val (.int la), .val (.int ps)] [])) t → Steps p.tables e below (s₁.setTop (mkF m 57 #[.val (.ref a0_), .val (.int p1), .val (.double (fv dN)), .second, .val (.int la), .val (.int ps)] [])) t := by
        intro t k
        refine a6 t ?_
        show Steps p.tables e below (T2.setTop (mkF m 73 #[.val (.ref a0_), .val (.int p1), .val (.double (fv dN)), .second, .val (.int la), .val (.int ps)] [(.int (cmpValue (FP.dcmp (fv (D.getD n 0)) (fv dN)) .l))])) _
        refine XS.ifYes X2.here hx rfl (pc0 := 73) (pc' := 114) rfl (hb hby d7_73) rfl ((if0 _ _).trans (flt hc73_7).2.2.2) (by decide) (by decide) ?_
        exact k
      have hR' : R = (I, D, n + 1) := hR.trans (shift_no _ I D (fun q => hc73_7 ((gtL hf (hD n) hd).mpr q)))
      subst hR'
      exact ⟨T2, _, hH, ps, X2, e2, Z0, K0, N0, F1, F2, F3, PI, PD, hps, a33⟩
theorem ef_rmO (m : MethodId) (x0 : Addr) (x1 : Int32) (x2 : UInt64) : entryFrame m #[(.ref x0), (.int x1), (.double x2)] 6 = mkF m 0 #[.val (.ref x0), .val (.int x1), .val (.double x2), .second, .unset, .unset] [] := by first | (simp [entryFrame, mkF, argsToLocals, Value.category]; done) | rfl
theorem d7_0 : decode prog_21_method_2_code 0 = .ok (.aload_n 0, 1) := by decide +kernel
theorem d7_1 : decode prog_21_method_2_code 1 = .ok (.getfield 7, 3) := by decide +kernel
theorem d7_4 : decode prog_21_method_2_code 4 = .ok (.arraylength, 1) := by decide +kernel
theorem d7_5 : decode prog_21_method_2_code 5 = .ok (.iconst 1, 1) := by decide +kernel
theorem d7_6 : decode prog_21_method_2_code 6 = .ok (.isub, 1) := by decide +kernel
theorem d7_7 : decode prog_21_method_2_code 7 = .ok (.istore 4, 2) := by decide +kernel
theorem d7_9 : decode prog_21_method_2_code 9 = .ok (.aload_n 0, 1) := by decide +kernel
theorem d7_10 : decode prog_21_method_2_code 10 = .ok (.getfield 17, 3) := by decide +kernel
theorem d7_13 : decode prog_21_method_2_code 13 = .ok (.iload 4, 2) := by decide +kernel
theorem d7_15 : decode prog_21_method_2_code 15 = .ok (.if_icmp .le 15, 3) := by decide +kernel
theorem d7_18 : decode prog_21_method_2_code 18 = .ok (.dload_n 2, 1) := by decide +kernel
theorem d7_19 : decode prog_21_method_2_code 19 = .ok (.aload_n 0, 1) := by decide +kernel
theorem d7_20 : decode prog_21_method_2_code 20 = .ok (.getfield 13, 3) := by decide +kernel
theorem d7_23 : decode prog_21_method_2_code 23 = .ok (.iload 4, 2) := by decide +kernel
theorem d7_25 : decode prog_21_method_2_code 25 = .ok (.daload, 1) := by decide +kernel
theorem d7_26 : decode prog_21_method_2_code 26 = .ok (.dcmp .g, 1) := by decide +kernel
theorem d7_27 : decode prog_21_method_2_code 27 = .ok (.ifCond .ge 103, 3) := by decide +kernel
theorem d7_30 : decode prog_21_method_2_code 30 = .ok (.aload_n 0, 1) := by decide +kernel
theorem d7_31 : decode prog_21_method_2_code 31 = .ok (.getfield 17, 3) := by decide +kernel
theorem d7_34 : decode prog_21_method_2_code 34 = .ok (.iload 4, 2) := by decide +kernel
theorem d7_36 : decode prog_21_method_2_code 36 = .ok (.if_icmp .gt 17, 3) := by decide +kernel
theorem d7_53 : decode prog_21_method_2_code 53 = .ok (.iload 4, 2) := by decide +kernel
theorem d7_55 : decode prog_21_method_2_code 55 = .ok (.istore 5, 2) := by decide +kernel
theorem d7_114 : decode prog_21_method_2_code 114 = .ok (.aload_n 0, 1) := by decide +kernel
theorem d7_115 : decode prog_21_method_2_code 115 = .ok (.getfield 7, 3) := by decide +kernel
theorem d7_118 : decode prog_21_method_2_code 118 = .ok (.iload 5, 2) := by decide +kernel
theorem d7_120 : decode prog_21_method_2_code 120 = .ok (.iload_n 1, 1) := by decide +kernel
theorem d7_121 : decode prog_21_method_2_code 121 = .ok (.iastore, 1) := by decide +kernel
theorem d7_122 : decode prog_21_method_2_code 122 = .ok (.aload_n 0, 1) := by decide +kernel
theorem d7_123 : decode prog_21_method_2_code 123 = .ok (.getfield 13, 3) := by decide +kernel
theorem d7_126 : decode prog_21_method_2_code 126 = .ok (.iload 5, 2) := by decide +kernel
theorem d7_128 : decode prog_21_method_2_code 128 = .ok (.dload_n 2, 1) := by decide +kernel
theorem d7_129 : decode prog_21_method_2_code 129 = .ok (.dastore, 1) := by decide +kernel
theorem d7_130 : decode prog_21_method_2_code 130 = .ok (.return_, 1) := by decide +kernel
theorem d7_39 : decode prog_21_method_2_code 39 = .ok (.aload_n 0, 1) := by decide +kernel
theorem d7_40 : decode prog_21_method_2_code 40 = .ok (.dup, 1) := by decide +kernel
theorem d7_41 : decode prog_21_method_2_code 41 = .ok (.getfield 17, 3) := by decide +kernel
theorem d7_44 : decode prog_21_method_2_code 44 = .ok (.dup_x1, 1) := by decide +kernel
theorem d7_45 : decode prog_21_method_2_code 45 = .ok (.iconst 1, 1) := by decide +kernel
theorem d7_46 : decode prog_21_method_2_code 46 = .ok (.iadd, 1) := by decide +kernel
theorem d7_47 : decode prog_21_method_2_code 47 = .ok (.putfield 17, 3) := by decide +kernel
theorem d7_50 : decode prog_21_method_2_code 50 = .ok (.goto 5, 3) := by decide +kernel
def QO (Z : State) (a0_ : Addr) (p1 : Int32) (ia da : Addr) (ki kd : ClassId) (cc sz_ : Int32) (cN szN dN : Nat) (I : List Int32) (D : List Nat) (fv : Nat → UInt64) (h0 : Heap) (n0 : Nat) (v : Option Value) (h : Heap) (L : List Loc) : Prop := v = none ∧ Fr n0 L ∧ Keep h0 h [a0_, ia, da] ∧ Fld Z h a0_ "com/example/tillerfront/tillerfront/engine/Nearest" "indices" "[I" (.ref ia) ∧ Fld Z h a0_ "com/example/tillerfront/tillerfront/engine/Nearest" "distances" "[D" (.ref da) ∧ ∃ s' : Int32, Fld Z h a0_ "com/example/tillerfront/tillerfront/engine/Nearest" "size" "I" (.int s') ∧ s'.toInt = ((offerP (0 : Int32) cN p1 dN (I, D, szN)).2.2 : Int) ∧ Arv Z h ia ki .int cc ((offerP (0 : Int32) cN p1 dN (I, D, szN)).1.map Value.int) (.int (0 : Int32)) ∧ Arv Z h da kd .double cc ((offerP (0 : Int32) cN p1 dN (I, D, szN)).2.1.map (fd fv)) (.double (0 : UInt64))
set_option maxRecDepth 65536 in
set_option maxHeartbeats 40000000 in
theorem rmO (l : Launch) (Z : State) (a0 : Array Value) (hw : ∀ d ∈ tables_1, d.before a0 Z = true) (ws : List Jvm.Cond) (a0_ : Addr) (p1 : Int32) (ia da : Addr) (ki kd : ClassId) (cc sz_ : Int32) (cN szN dN : Nat) (I : List Int32) (D : List Nat) (fv : Nat → UInt64) (h0 : Heap) (n0 : Nat) (Z0 : n0 ≤ h0.size) (hf : FV fv) (E0 : Exa Z h0 a0_ "com/example/tillerfront/tillerfront/engine/Nearest") (g0 : n0 ≤ a0_) (g1 : n0 ≤ ia) (g2 : n0 ≤ da) (F1 : Fld Z h0 a0_ "com/example/tillerfront/tillerfront/engine/Nearest" "indices" "[I" (.ref ia)) (F2 : Fld Z h0 a0_ "com/example/tillerfront/tillerfront/engine/Nearest" "distances" "[D" (.ref da)) (F3 : Fld Z h0 a0_ "com/example/tillerfront/tillerfront/engine/Nearest" "size" "I" (.int sz_)) (PI : Arv Z h0 ia ki .int cc (I.map Value.int) (.int (0 : Int32))) (PD : Arv Z h0 da kd .double cc (D.map (fd fv)) (.double (0 : UInt64))) (ne1 : a0_ ≠ ia) (ne2 : a0_ ≠ da) (ne3 : ia ≠ da) (hc : cc.toInt = (cN : Int) ∧ 1 ≤ cN ∧ cN ≤ 5) (hs : sz_.toInt = (szN : Int) ∧ szN ≤ cN) (hI : I.length = cN) (hDl : D.length = cN) (hD : ∀ k, D.getD k 0 < 4) (hd : dN < 4) :
    MetFree l (⟨"com/example/tillerfront/tillerfront/engine/Nearest", "offer", "(ID)V"⟩ : MethodName) (head1 (Jvm.Cond.code (⟨"com/example/tillerfront/tillerfront/engine/Nearest", "offer", "(ID)V"⟩ : MethodName) prog_21_method_2_code 6 none :: ws) ({ frames := 0, cells := 0, slots := 0, locals := 0 } : Room)) (fun a U => a = #[(.ref a0_), (.int p1), (.double (fv dN))] ∧ Z.Warmed39 U.vm ∧ U.heap = h0) (fun _ _ _ _ _ => True) (fun _ U o U' => ∃ v L, o = .returned v ∧ QO Z a0_ p1 ia da ki kd cc sz_ cN szN dN I D fv h0 n0 v U'.heap L ∧ FrameEnd U o U' L ({ frames := 0, cells := 0, slots := 0, locals := 0 } : Room).cells ({ frames := 0, cells := 0, slots := 0, locals := 0 } : Room).slots) := by
  refine MetFree.of_bodySF (plainFor_of_name own_pn_com_example_tillerfront_tillerfront_engine_Nearest) hisR ?_
  intro p e s m args below meth c s₁ Bd hml0 hP hK
  obtain ⟨rfl, hZ, hh⟩ := hP
  have hx := Bd.exec
  have hby := Bd.bytes
  have hml : c.maxLocals = 6 := hml0
  have hown : s.vm.findClass "com/example/tillerfront/tillerfront/engine/Nearest" = some m.cls := findClass_of_methodNamed Bd.named
  have hnm := (name_of_methodNamed Bd.named Bd.method).1
  have X0 : Stand p l e ({ frames := 0, cells := 0, slots := 0, locals := 0 } : Room) s m #[(.ref a0_), (.int p1), (.double (fv dN))] below meth c s₁ [] 0 0 := Stand.of_body Bd
  have e0 : s₁.heap = h0 := by rw [← hh, Bd.state]; rfl
  have N0 := Fr.nil n0
  have pre0 : ∀ t, Steps p.tables e below (s₁.setTop (mkF m 0 #[.val (.ref a0_), .val (.int p1), .val (.double (fv dN)), .second, .unset, .unset] [])) t → Steps p.tables e below (s₁.setTop (entryFrame m #[(.ref a0_), (.int p1), (.double (fv dN))] 6)) t := fun t k => castTop (ef_rmO m a0_ p1 (fv dN)) k
  have a1 : ∀ t, Steps p.tables e below (s₁.setTop (mkF m 1 #[.val (.ref a0_), .val (.int p1), .val (.double (fv dN)), .second, .unset, .unset] [(.ref a0_)])) t → Steps p.tables e below (s₁.setTop (entryFrame m #[(.ref a0_), (.int p1), (.double (fv dN))] 6)) t := by
    intro t k
    refine pre0 t ?_
    show Steps p.tables e below (s₁.setTop (mkF m 0 #[.val (.ref a0_), .val (.int p1), .val (.double (fv dN)), .second, .unset, .unset] [])) _
    refine XS.aloadN X0.here hx rfl (hb hby d7_0) rfl rfl ?_
    exact k
  obtain ⟨T2, X2, e2, st2⟩ := getF X0 hx hZ hown (host := "") (Or.inl (hw _ (List.mem_of_getElem? (i := 11) rfl))) Via.refl e0 F1 (g := (mkF m 1 #[.val (.ref a0_), .val (.int p1), .val (.double (fv dN)), .second, .unset, .unset] [(.ref a0_)])) rfl rfl (hb hby d7_1)
  have a3 : ∀ t, Steps p.tables e below (T2.setTop (mkF m 4 #[.val (.ref a0_), .val (.int p1), .val (.double (fv dN)), .second, .unset, .unset] [(.ref ia)])) t → Steps p.tables e below (s₁.setTop (entryFrame m #[(.ref a0_), (.int p1), (.double (fv dN))] 6)) t := fun t k => a1 t (st2 t k)
  obtain ⟨cl4, Ar4, qc4, Sz4, Nn4, Hs4, Gs4⟩ := id PI
  have a5 : ∀ t, Steps p.tables e below (T2.setTop (mkF m 7 #[.val (.ref a0_), .val (.int p1), .val (.double (fv dN)), .second, .unset, .unset] [(.int (cc - (1 : Int32)))])) t → Steps p.tables e below (s₁.setTop (entryFrame m #[(.ref a0_), (.int p1), (.double (fv dN))] 6)) t := by
    intro t k
    refine a3 t ?_
    show Steps p.tables e below (T2.setTop (mkF m 4 #[.val (.ref a0_), .val (.int p1), .val (.double (fv dN)), .second, .unset, .unset] [(.ref ia)])) _
    refine X2.arraylength hx (by rw [e2]; exact Ar4.1) (State.isArrayOf_alike hZ.alike Ar4.2.1) (g := (mkF m 4 #[.val (.ref a0_), .val (.int p1), .val (.double (fv dN)), .second, .unset, .unset] [(.ref ia)])) rfl rfl (hb hby d7_4) _ ?_
    rw [len_of Sz4 Nn4]
    refine XS.iconst X2.here hx rfl (hb hby d7_5) ?_
    refine XS.isub X2.here hx rfl (hb hby d7_6) rfl ?_
    exact k
  obtain ⟨la, h_la⟩ : ∃ z : Int32, z = (cc - (1 : Int32)) := ⟨_, rfl⟩
  rw [← h_la] at a5
  have hla : la.toInt = ((cN - 1 : Nat) : Int) := by rw [h_la]; exact lastN hc
  have ibl := ixb hla hc.1 (lastLt hc.2.1)
  have udl : (D.map (fd fv)).getD la.toNatClampNeg (.double (0 : UInt64)) = (.double (fv (D.getD (cN - 1) 0))) := loopD hf D (ixn hla)
  have a6 : ∀ t, Steps p.tables e below (T2.setTop (mkF m 10 #[.val (.ref a0_), .val (.int p1), .val (.double (fv dN)), .second, .val (.int la), .unset] [(.ref a0_)])) t → Steps p.tables e below (s₁.setTop (entryFrame m #[(.ref a0_), (.int p1), (.double (fv dN))] 6)) t := by
    intro t k
    refine a5 t ?_
    show Steps p.tables e below (T2.setTop (mkF m 7 #[.val (.ref a0_), .val (.int p1), .val (.double (fv dN)), .second, .unset, .unset] [(.int la)])) _
    refine XS.istore X2.here hx rfl (hb hby d7_7) rfl (l' := #[.val (.ref a0_), .val (.int p1), .val (.double (fv dN)), .second, .val (.int la), .unset]) rfl ?_
    refine XS.aloadN X2.here hx rfl (hb hby d7_9) rfl rfl ?_
    exact k
  obtain ⟨T7, X7, e7, st7⟩ := getF X2 hx hZ hown (host := "") (Or.inl (hw _ (List.mem_of_getElem? (i := 20) rfl))) Via.refl e2 F3 (g := (mkF m 10 #[.val (.ref a0_), .val (.int p1), .val (.double (fv dN)), .second, .val (.int la), .unset] [(.ref a0_)])) rfl rfl (hb hby d7_10)
  have a8 : ∀ t, Steps p.tables e below (T7.setTop (mkF m 13 #[.val (.ref a0_), .val (.int p1), .val (.double (fv dN)), .second, .val (.int la), .unset] [(.int sz_)])) t → Steps p.tables e below (s₁.setTop (entryFrame m #[(.ref a0_), (.int p1), (.double (fv dN))] 6)) t := fun t k => a6 t (st7 t k)
  have a9 : ∀ t, Steps p.tables e below (T7.setTop (mkF m 15 #[.val (.ref a0_), .val (.int p1), .val (.double (fv dN)), .second, .val (.int la), .unset] [(.int la), (.int sz_)])) t → Steps p.tables e below (s₁.setTop (entryFrame m #[(.ref a0_), (.int p1), (.double (fv dN))] 6)) t := by
    intro t k
    refine a8 t ?_
    show Steps p.tables e below (T7.setTop (mkF m 13 #[.val (.ref a0_), .val (.int p1), .val (.double (fv dN)), .second, .val (.int la), .unset] [(.int sz_)])) _
    refine XS.iload X7.here hx rfl (hb hby d7_13) rfl ?_
    exact k
  by_cases hc15_10 : la < sz_
  ·
    have a11 : ∀ t, Steps p.tables e below (T7.setTop (mkF m 20 #[.val (.ref a0_), .val (.int p1), .val (.double (fv dN)), .second, .val (.int la), .unset] [(.ref a0_), (.double (fv dN))])) t → Steps p.tables e below (s₁.setTop (entryFrame m #[(.ref a0_), (.int p1), (.double (fv dN))] 6)) t := by
      intro t k
      refine a9 t ?_
      show Steps p.tables e below (T7.setTop (mkF m 15 #[.val (.ref a0_), .val (.int p1), .val (.double (fv dN)), .second, .val (.int la), .unset] [(.int la), (.int sz_)])) _
      refine XS.icmpNo X7.here hx rfl (hb hby d7_15) rfl (tlt hc15_10).2.2.2 ?_
      refine XS.dloadN X7.here hx rfl (hb hby d7_18) rfl ?_
      refine XS.aloadN X7.here hx rfl (hb hby d7_19) rfl rfl ?_
      exact k
    obtain ⟨T12, X12, e12, st12⟩ := getF X7 hx hZ hown (host := "") (Or.inl (hw _ (List.mem_of_getElem? (i := 13) rfl))) Via.refl e7 F2 (g := (mkF m 20 #[.val (.ref a0_), .val (.int p1), .val (.double (fv dN)), .second, .val (.int la), .unset] [(.ref a0_), (.double (fv dN))])) rfl rfl (hb hby d7_20)
    have a13 : ∀ t, Steps p.tables e below (T12.setTop (mkF m 23 #[.val (.ref a0_), .val (.int p1), .val (.double (fv dN)), .second, .val (.int la), .unset] [(.ref da), (.double (fv dN))])) t → Steps p.tables e below (s₁.setTop (entryFrame m #[(.ref a0_), (.int p1), (.double (fv dN))] 6)) t := fun t k => a11 t (st12 t k)
    have a14 : ∀ t, Steps p.tables e below (T12.setTop (mkF m 25 #[.val (.ref a0_), .val (.int p1), .val (.double (fv dN)), .second, .val (.int la), .unset] [(.int la), (.ref da), (.double (fv dN))])) t → Steps p.tables e below (s₁.setTop (entryFrame m #[(.ref a0_), (.int p1), (.double (fv dN))] 6)) t := by
      intro t k
      refine a13 t ?_
      show Steps p.tables e below (T12.setTop (mkF m 23 #[.val (.ref a0_), .val (.int p1), .val (.double (fv dN)), .second, .val (.int la), .unset] [(.ref da), (.double (fv dN))])) _
      refine XS.iload X12.here hx rfl (hb hby d7_23) rfl ?_
      exact k
    obtain ⟨cl15, Ar15, qc15, Sz15, Nn15, Hs15, Gs15⟩ := id PD
    have hin15 : ¬ (la < 0 ∨ cl15.slots.size ≤ (la).toNatClampNeg) := inb_of Sz15 ibl
    have hat15 := Hs15.at hin15 (v := (.double (fv (D.getD (cN - 1) 0)))) udl
    have a16 : ∀ t, Steps p.tables e below (T12.setTop (mkF m 27 #[.val (.ref a0_), .val (.int p1), .val (.double (fv dN)), .second, .val (.int la), .unset] [(.int (cmpValue (FP.dcmp (fv dN) (fv (D.getD (cN - 1) 0))) .g))])) t → Steps p.tables e below (s₁.setTop (entryFrame m #[(.ref a0_), (.int p1), (.double (fv dN))] 6)) t := by
      intro t k
      refine a14 t ?_
      show Steps p.tables e below (T12.setTop (mkF m 25 #[.val (.ref a0_), .val (.int p1), .val (.double (fv dN)), .second, .val (.int la), .unset] [(.int la), (.ref da), (.double (fv dN))])) _
      refine X12.daload hx (j := la) (v := (.double (fv (D.getD (cN - 1) 0)))) (by rw [e12]; exact Ar15.1) (State.isArrayOf_alike hZ.alike Ar15.2.1) Ar15.2.2 hin15 hat15 (g := (mkF m 25 #[.val (.ref a0_), .val (.int p1), .val (.double (fv dN)), .second, .val (.int la), .unset] [(.int la), (.ref da), (.double (fv dN))])) rfl rfl (hb hby d7_25) _ ?_
      refine XS.dcmpS X12.here hx rfl (hb hby d7_26) rfl rfl ?_
      exact k
    by_cases hc27_17 : (cmpValue (FP.dcmp (fv dN) (fv (D.getD (cN - 1) 0))) .g) < (0 : Int32)
    ·
      have a18 : ∀ t, Steps p.tables e below (T12.setTop (mkF m 31 #[.val (.ref a0_), .val (.int p1), .val (.double (fv dN)), .second, .val (.int la), .unset] [(.ref a0_)])) t → Steps p.tables e below (s₁.setTop (entryFrame m #[(.ref a0_), (.int p1), (.double (fv dN))] 6)) t := by
        intro t k
        refine a16 t ?_
        show Steps p.tables e below (T12.setTop (mkF m 27 #[.val (.ref a0_), .val (.int p1), .val (.double (fv dN)), .second, .val (.int la), .unset] [(.int (cmpValue (FP.dcmp (fv dN) (fv (D.getD (cN - 1) 0))) .g))])) _
        refine XS.ifNo X12.here hx rfl (hb hby d7_27) rfl ((if0 _ _).trans (tlt hc27_17).2.1) ?_
        refine XS.aloadN X12.here hx rfl (hb hby d7_30) rfl rfl ?_
        exact k
      obtain ⟨T19, X19, e19, st19⟩ := getF X12 hx hZ hown (host := "") (Or.inl (hw _ (List.mem_of_getElem? (i := 20) rfl))) Via.refl e12 F3 (g := (mkF m 31 #[.val (.ref a0_), .val (.int p1), .val (.double (fv dN)), .second, .val (.int la), .unset] [(.ref a0_)])) rfl rfl (hb hby d7_31)
      have a20 : ∀ t, Steps p.tables e below (T19.setTop (mkF m 34 #[.val (.ref a0_), .val (.int p1), .val (.double (fv dN)), .second, .val (.int la), .unset] [(.int sz_)])) t → Steps p.tables e below (s₁.setTop (entryFrame m #[(.ref a0_), (.int p1), (.double (fv dN))] 6)) t := fun t k => a18 t (st19 t k)
      have a21 : ∀ t, Steps p.tables e below (T19.setTop (mkF m 57 #[.val (.ref a0_), .val (.int p1), .val (.double (fv dN)), .second, .val (.int la), .val (.int la)] [])) t → Steps p.tables e below (s₁.setTop (entryFrame m #[(.ref a0_), (.int p1), (.double (fv dN))] 6)) t := by
        intro t k
        refine a20 t ?_
        show Steps p.tables e below (T19.setTop (mkF m 34 #[.val (.ref a0_), .val (.int p1), .val (.double (fv dN)), .second, .val (.int la), .unset] [(.int sz_)])) _
        refine XS.iload X19.here hx rfl (hb hby d7_34) rfl ?_
        refine XS.icmpYes X19.here hx rfl (pc0 := 36) (pc' := 53) rfl (hb hby d7_36) rfl (tlt hc15_10).2.2.1 (by decide) (by decide) ?_
        refine XS.iload X19.here hx rfl (hb hby d7_53) rfl ?_
        refine XS.istore X19.here hx rfl (hb hby d7_55) rfl (l' := #[.val (.ref a0_), .val (.int p1), .val (.double (fv dN)), .second, .val (.int la), .val (.int la)]) rfl ?_
        exact k
      have hlt22 : (cN - 1) < cN := lastLt hc.2.1
      obtain ⟨T22, L22, h22, ps22, X22, e22, z22, K22, N22, Fi22, Fd22, Fs22, PI22, PD22, hp22, st22⟩ := lpO Z a0 hw hx hZ hown hby hml a0_ p1 ia da ki kd cc la sz_ cN dN fv hf h0 n0 g0 g1 g2 ne1 ne2 ne3 hc hd (cN - 1) la T19 _ h0 I D _ rfl X19 e19 Z0 (Keep.refl h0 [a0_, ia, da]) N0 F1 F2 F3 PI PD hla hlt22 hI hDl hD
      have a23 : ∀ t, Steps p.tables e below (T22.setTop (mkF m 114 #[.val (.ref a0_), .val (.int p1), .val (.double (fv dN)), .second, .val (.int la), .val (.int ps22)] [])) t → Steps p.tables e below (s₁.setTop (entryFrame m #[(.ref a0_), (.int p1), (.double (fv dN))] 6)) t := fun t k => a21 t (st22 t k)
      have hle22 := shift_le (0 : Int32) dN (cN - 1) I D
      have hsl22 := shift_len (0 : Int32) dN (cN - 1) I D
      have hrl22 : (shiftP 0 dN (cN - 1) I D).2.2 < cN := Nat.lt_of_le_of_lt hle22 hlt22
      have ib22 := ixb hp22 hc.1 hrl22
      have tn22 := ixn hp22
      have a24 : ∀ t, Steps p.tables e below (T22.setTop (mkF m 115 #[.val (.ref a0_), .val (.int p1), .val (.double (fv dN)), .second, .val (.int la), .val (.int ps22)] [(.ref a0_)])) t → Steps p.tables e below (s₁.setTop (entryFrame m #[(.ref a0_), (.int p1), (.double (fv dN))] 6)) t := by
        intro t k
        refine a23 t ?_
        show Steps p.tables e below (T22.setTop (mkF m 114 #[.val (.ref a0_), .val (.int p1), .val (.double (fv dN)), .second, .val (.int la), .val (.int ps22)] [])) _
        refine XS.aloadN X22.here hx rfl (hb hby d7_114) rfl rfl ?_
        exact k
      obtain ⟨T25, X25, e25, st25⟩ := getF X22 hx hZ hown (host := "") (Or.inl (hw _ (List.mem_of_getElem? (i := 11) rfl))) Via.refl e22 Fi22 (g := (mkF m 115 #[.val (.ref a0_), .val (.int p1), .val (.double (fv dN)), .second, .val (.int la), .val (.int ps22)] [(.ref a0_)])) rfl rfl (hb hby d7_115)
      have a26 : ∀ t, Steps p.tables e below (T25.setTop (mkF m 118 #[.val (.ref a0_), .val (.int p1), .val (.double (fv dN)), .second, .val (.int la), .val (.int ps22)] [(.ref ia)])) t → Steps p.tables e below (s₁.setTop (entryFrame m #[(.ref a0_), (.int p1), (.double (fv dN))] 6)) t := fun t k => a24 t (st25 t k)
      have a27 : ∀ t, Steps p.tables e below (T25.setTop (mkF m 121 #[.val (.ref a0_), .val (.int p1), .val (.double (fv dN)), .second, .val (.int la), .val (.int ps22)] [(.int p1), (.int ps22), (.ref ia)])) t → Steps p.tables e below (s₁.setTop (entryFrame m #[(.ref a0_), (.int p1), (.double (fv dN))] 6)) t := by
        intro t k
        refine a26 t ?_
        show Steps p.tables e below (T25.setTop (mkF m 118 #[.val (.ref a0_), .val (.int p1), .val (.double (fv dN)), .second, .val (.int la), .val (.int ps22)] [(.ref ia)])) _
        refine XS.iload X25.here hx rfl (hb hby d7_118) rfl ?_
        refine XS.iloadN X25.here hx rfl (hb hby d7_120) rfl ?_
        exact k
      obtain ⟨cl28, Ar28, qc28, Sz28, Nn28, Hs28, Gs28⟩ := id PI22
      have hin28 : ¬ (ps22 < 0 ∨ cl28.slots.size ≤ (ps22).toNatClampNeg) := inb_of Sz28 ib22
      obtain ⟨T29, h29, X29, e29, W29, st29⟩ := stI X25 hx hZ e25 Ar28 (j := ps22) hin28 (g := (mkF m 121 #[.val (.ref a0_), .val (.int p1), .val (.double (fv dN)), .second, .val (.int la), .val (.int ps22)] [(.int p1), (.int ps22), (.ref ia)])) rfl rfl (hb hby d7_121)
      have V29 : Arv Z h29 ia ki .int cc (((shiftP 0 dN (cN - 1) I D).1.map Value.int).set (shiftP 0 dN (cN - 1) I D).2.2 (.int p1)) (.int (0 : Int32)) := Arv.set Ar28 qc28 Sz28 Nn28 Hs28 Gs28 rfl W29 (shiftP 0 dN (cN - 1) I D).2.2 tn22 (by rw [List.length_map, hsl22.1, hI]; exact hrl22)
      have N29 := Fr.snoc X29 N22 g1
      have K29 : Keep h0 h29 [a0_, ia, da] := Keep.wr K22 W29 (Or.inl (List.mem_of_getElem? (i := 1) rfl))
      have a30 : ∀ t, Steps p.tables e below (T29.setTop (mkF m 122 #[.val (.ref a0_), .val (.int p1), .val (.double (fv dN)), .second, .val (.int la), .val (.int ps22)] [])) t → Steps p.tables e below (s₁.setTop (entryFrame m #[(.ref a0_), (.int p1), (.double (fv dN))] 6)) t := fun t k => a27 t (st29 t k)
      have a31 : ∀ t, Steps p.tables e below (T29.setTop (mkF m 123 #[.val (.ref a0_), .val (.int p1), .val (.double (fv dN)), .second, .val (.int la), .val (.int ps22)] [(.ref a0_)])) t → Steps p.tables e below (s₁.setTop (entryFrame m #[(.ref a0_), (.int p1), (.double (fv dN))] 6)) t := by
        intro t k
        refine a30 t ?_
        show Steps p.tables e below (T29.setTop (mkF m 122 #[.val (.ref a0_), .val (.int p1), .val (.double (fv dN)), .second, .val (.int la), .val (.int ps22)] [])) _
        refine XS.aloadN X29.here hx rfl (hb hby d7_122) rfl rfl ?_
        exact k
      obtain ⟨T32, X32, e32, st32⟩ := getF X29 hx hZ hown (host := "") (Or.inl (hw _ (List.mem_of_getElem? (i := 13) rfl))) Via.refl e29 (Fld.other W29 Fd22 (Or.inl ne1)) (g := (mkF m 123 #[.val (.ref a0_), .val (.int p1), .val (.double (fv dN)), .second, .val (.int la), .val (.int ps22)] [(.ref a0_)])) rfl rfl (hb hby d7_123)
      have a33 : ∀ t, Steps p.tables e below (T32.setTop (mkF m 126 #[.val (.ref a0_), .val (.int p1), .val (.double (fv dN)), .second, .val (.int la), .val (.int ps22)] [(.ref da)])) t → Steps p.tables e below (s₁.setTop (entryFrame m #[(.ref a0_), (.int p1), (.double (fv dN))] 6)) t := fun t k => a31 t (st32 t k)
      have a34 : ∀ t, Steps p.tables e below (T32.setTop (mkF m 129 #[.val (.ref a0_), .val (.int p1), .val (.double (fv dN)), .second, .val (.int la), .val (.int ps22)] [(.double (fv dN)), (.int ps22), (.ref da)])) t → Steps p.tables e below (s₁.setTop (entryFrame m #[(.ref a0_), (.int p1), (.double (fv dN))] 6)) t := by
        intro t k
        refine a33 t ?_
        show Steps p.tables e below (T32.setTop (mkF m 126 #[.val (.ref a0_), .val (.int p1), .val (.double (fv dN)), .second, .val (.int la), .val (.int ps22)] [(.ref da)])) _
        refine XS.iload X32.here hx rfl (hb hby d7_126) rfl ?_
        refine XS.dloadN X32.here hx rfl (hb hby d7_128) rfl ?_
        exact k
      obtain ⟨cl35, Ar35, qc35, Sz35, Nn35, Hs35, Gs35⟩ := id (Arv.other PD22 W29 (Ne.symm ne3))
      have hin35 : ¬ (ps22 < 0 ∨ cl35.slots.size ≤ (ps22).toNatClampNeg) := inb_of Sz35 ib22
      obtain ⟨T36, h36, X36, e36, W36, st36⟩ := stD X32 hx hZ e32 Ar35 (j := ps22) hin35 (g := (mkF m 129 #[.val (.ref a0_), .val (.int p1), .val (.double (fv dN)), .second, .val (.int la), .val (.int ps22)] [(.double (fv dN)), (.int ps22), (.ref da)])) rfl rfl (hb hby d7_129)
      have V36 : Arv Z h36 da kd .double cc (((shiftP 0 dN (cN - 1) I D).2.1.map (fd fv)).set (shiftP 0 dN (cN - 1) I D).2.2 (.double (fv dN))) (.double (0 : UInt64)) := Arv.set Ar35 qc35 Sz35 Nn35 Hs35 Gs35 rfl W36 (shiftP 0 dN (cN - 1) I D).2.2 tn22 (by rw [List.length_map, hsl22.2, hDl]; exact hrl22)
      have N36 := Fr.snoc X36 N29 g2
      have K36 : Keep h0 h36 [a0_, ia, da] := Keep.wr K29 W36 (Or.inl (List.mem_of_getElem? (i := 2) rfl))
      have a37 : ∀ t, Steps p.tables e below (T36.setTop (mkF m 130 #[.val (.ref a0_), .val (.int p1), .val (.double (fv dN)), .second, .val (.int la), .val (.int ps22)] [])) t → Steps p.tables e below (s₁.setTop (entryFrame m #[(.ref a0_), (.int p1), (.double (fv dN))] 6)) t := fun t k => a34 t (st36 t k)
      obtain ⟨fs, hr, hrun, hended, hW, hsame⟩ := X36.leave (v := none) (fun _ => rfl)
      refine ⟨_, _, a37 _ ?_, hrun, hended, _, _, rfl, ?_, ⟨_, rfl⟩, hW, hsame.mono (by decide) (by decide)⟩
      · show Steps p.tables e below (T36.setTop (mkF m 130 #[.val (.ref a0_), .val (.int p1), .val (.double (fv dN)), .second, .val (.int la), .val (.int ps22)] [])) _
        exact X36.returnOut hx Bd.returns (hb hby d7_130) hr
      · show QO Z a0_ p1 ia da ki kd cc sz_ cN szN dN I D fv h0 n0 _ T36.heap _
        rw [e36]
        have hO : (offerP (0 : Int32) cN p1 dN (I, D, szN)) = ((putP (0 : Int32) p1 dN (cN - 1) I D).1, (putP (0 : Int32) p1 dN (cN - 1) I D).2, szN) := by unfold offerP; rw [if_pos (show cN - 1 < szN from (lt32 hla hs.1).mp hc15_10), if_pos (show dN < D.getD (cN - 1) 0 from (ltG hf hd (hD (cN - 1))).mp hc27_17)]
        exact ⟨rfl, N36, K36, (Fld.other W36 (Fld.other W29 Fi22 (Or.inl ne1)) (Or.inl ne2)), (Fld.other W36 (Fld.other W29 Fd22 (Or.inl ne1)) (Or.inl ne2)), _, (Fld.other W36 (Fld.other W29 Fs22 (Or.inl ne1)) (Or.inl ne2)), by rw [hO]; exact hs.1, by rw [hO]; unfold putP; rw [List.map_set]; exact (Arv.other V29 W36 ne3), by rw [hO]; unfold putP; rw [List.map_set]; exact V36⟩
    ·
      have a38 : ∀ t, Steps p.tables e below (T12.setTop (mkF m 130 #[.val (.ref a0_), .val (.int p1), .val (.double (fv dN)), .second, .val (.int la), .unset] [])) t → Steps p.tables e below (s₁.setTop (entryFrame m #[(.ref a0_), (.int p1), (.double (fv dN))] 6)) t := by
        intro t k
        refine a16 t ?_
        show Steps p.tables e below (T12.setTop (mkF m 27 #[.val (.ref a0_), .val (.int p1), .val (.double (fv dN)), .second, .val (.int la), .unset] [(.int (cmpValue (FP.dcmp (fv dN) (fv (D.getD (cN - 1) 0))) .g))])) _
        refine XS.ifYes X12.here hx rfl (pc0 := 27) (pc' := 130) rfl (hb hby d7_27) rfl ((if0 _ _).trans (flt hc27_17).2.1) (by decide) (by decide) ?_
        exact k
      obtain ⟨fs, hr, hrun, hended, hW, hsame⟩ := X12.leave (v := none) (fun _ => rfl)
      refine ⟨_, _, a38 _ ?_, hrun, hended, _, _, rfl, ?_, ⟨_, rfl⟩, hW, hsame.mono (by decide) (by decide)⟩
      · show Steps p.tables e below (T12.setTop (mkF m 130 #[.val (.ref a0_), .val (.int p1), .val (.double (fv dN)), .second, .val (.int la), .unset] [])) _
        exact X12.returnOut hx Bd.returns (hb hby d7_130) hr
      · show QO Z a0_ p1 ia da ki kd cc sz_ cN szN dN I D fv h0 n0 _ T12.heap _
        rw [e12]
        have hO : (offerP (0 : Int32) cN p1 dN (I, D, szN)) = (I, D, szN) := by unfold offerP; rw [if_pos (show cN - 1 < szN from (lt32 hla hs.1).mp hc15_10), if_neg (show ¬ dN < D.getD (cN - 1) 0 from fun q => hc27_17 ((ltG hf hd (hD (cN - 1))).mpr q))]
        exact ⟨rfl, N0, (Keep.refl h0 [a0_, ia, da]), F1, F2, _, F3, by rw [hO]; exact hs.1, by rw [hO]; exact PI, by rw [hO]; exact PD⟩
  ·
    have a39 : ∀ t, Steps p.tables e below (T7.setTop (mkF m 31 #[.val (.ref a0_), .val (.int p1), .val (.double (fv dN)), .second, .val (.int la), .unset] [(.ref a0_)])) t → Steps p.tables e below (s₁.setTop (entryFrame m #[(.ref a0_), (.int p1), (.double (fv dN))] 6)) t := by
      intro t k
      refine a9 t ?_
      show Steps p.tables e below (T7.setTop (mkF m 15 #[.val (.ref a0_), .val (.int p1), .val (.double (fv dN)), .second, .val (.int la), .unset] [(.int la), (.int sz_)])) _
      refine XS.icmpYes X7.here hx rfl (pc0 := 15) (pc' := 30) rfl (hb hby d7_15) rfl (flt hc15_10).2.2.2 (by decide) (by decide) ?_
      refine XS.aloadN X7.here hx rfl (hb hby d7_30) rfl rfl ?_
      exact k
    obtain ⟨T40, X40, e40, st40⟩ := getF X7 hx hZ hown (host := "") (Or.inl (hw _ (List.mem_of_getElem? (i := 20) rfl))) Via.refl e7 F3 (g := (mkF m 31 #[.val (.ref a0_), .val (.int p1), .val (.double (fv dN)), .second, .val (.int la), .unset] [(.ref a0_)])) rfl rfl (hb hby d7_31)
    have a41 : ∀ t, Steps p.tables e below (T40.setTop (mkF m 34 #[.val (.ref a0_), .val (.int p1), .val (.double (fv dN)), .second, .val (.int la), .unset] [(.int sz_)])) t → Steps p.tables e below (s₁.setTop (entryFrame m #[(.ref a0_), (.int p1), (.double (fv dN))] 6)) t := fun t k => a39 t (st40 t k)
    have a42 : ∀ t, Steps p.tables e below (T40.setTop (mkF m 41 #[.val (.ref a0_), .val (.int p1), .val (.double (fv dN)), .second, .val (.int la), .unset] [(.ref a0_), (.ref a0_)])) t → Steps p.tables e below (s₁.setTop (entryFrame m #[(.ref a0_), (.int p1), (.double (fv dN))] 6)) t := by
      intro t k
      refine a41 t ?_
      show Steps p.tables e below (T40.setTop (mkF m 34 #[.val (.ref a0_), .val (.int p1), .val (.double (fv dN)), .second, .val (.int la), .unset] [(.int sz_)])) _
      refine XS.iload X40.here hx rfl (hb hby d7_34) rfl ?_
      refine XS.icmpNo X40.here hx rfl (hb hby d7_36) rfl (flt hc15_10).2.2.1 ?_
      refine XS.aloadN X40.here hx rfl (hb hby d7_39) rfl rfl ?_
      refine XS.dup X40.here hx rfl (hb hby d7_40) rfl rfl ?_
      exact k
    obtain ⟨T43, X43, e43, st43⟩ := getF X40 hx hZ hown (host := "") (Or.inl (hw _ (List.mem_of_getElem? (i := 20) rfl))) Via.refl e40 F3 (g := (mkF m 41 #[.val (.ref a0_), .val (.int p1), .val (.double (fv dN)), .second, .val (.int la), .unset] [(.ref a0_), (.ref a0_)])) rfl rfl (hb hby d7_41)
    have a44 : ∀ t, Steps p.tables e below (T43.setTop (mkF m 44 #[.val (.ref a0_), .val (.int p1), .val (.double (fv dN)), .second, .val (.int la), .unset] [(.int sz_), (.ref a0_)])) t → Steps p.tables e below (s₁.setTop (entryFrame m #[(.ref a0_), (.int p1), (.double (fv dN))] 6)) t := fun t k => a42 t (st43 t k)
    have a45 : ∀ t, Steps p.tables e below (T43.setTop (mkF m 47 #[.val (.ref a0_), .val (.int p1), .val (.double (fv dN)), .second, .val (.int la), .unset] [(.int (sz_ + (1 : Int32))), (.ref a0_), (.int sz_)])) t → Steps p.tables e below (s₁.setTop (entryFrame m #[(.ref a0_), (.int p1), (.double (fv dN))] 6)) t := by
      intro t k
      refine a44 t ?_
      show Steps p.tables e below (T43.setTop (mkF m 44 #[.val (.ref a0_), .val (.int p1), .val (.double (fv dN)), .second, .val (.int la), .unset] [(.int sz_), (.ref a0_)])) _
      refine XS.dupX1 X43.here hx rfl (hb hby d7_44) rfl rfl rfl ?_
      refine XS.iconst X43.here hx rfl (hb hby d7_45) ?_
      refine XS.iadd X43.here hx rfl (hb hby d7_46) rfl ?_
      exact k
    obtain ⟨T46, h46, X46, e46, W46, st46⟩ := putF X43 hx hZ hown (host := "") (Or.inl (hw _ (List.mem_of_getElem? (i := 20) rfl))) Via.refl e43 F3 E0 (Or.inl (hw _ (List.mem_of_getElem? (i := 21) rfl))) (hw _ (List.mem_of_getElem? (i := 3) rfl)) (ty := .int) (by decide) rfl rfl (g := (mkF m 47 #[.val (.ref a0_), .val (.int p1), .val (.double (fv dN)), .second, .val (.int la), .unset] [(.int (sz_ + (1 : Int32))), (.ref a0_), (.int sz_)])) rfl rfl (hb hby d7_47)
    have Fw46 := Fld.same W46 F3
    have N46 := Fr.snoc X46 N0 g0
    have K46 : Keep h0 h46 [a0_, ia, da] := Keep.wr (Keep.refl h0 [a0_, ia, da]) W46 (Or.inl (List.mem_of_getElem? (i := 0) rfl))
    have a47 : ∀ t, Steps p.tables e below (T46.setTop (mkF m 50 #[.val (.ref a0_), .val (.int p1), .val (.double (fv dN)), .second, .val (.int la), .unset] [(.int sz_)])) t → Steps p.tables e below (s₁.setTop (entryFrame m #[(.ref a0_), (.int p1), (.double (fv dN))] 6)) t := fun t k => a45 t (st46 t k)
    have a48 : ∀ t, Steps p.tables e below (T46.setTop (mkF m 57 #[.val (.ref a0_), .val (.int p1), .val (.double (fv dN)), .second, .val (.int la), .val (.int sz_)] [])) t → Steps p.tables e below (s₁.setTop (entryFrame m #[(.ref a0_), (.int p1), (.double (fv dN))] 6)) t := by
      intro t k
      refine a47 t ?_
      show Steps p.tables e below (T46.setTop (mkF m 50 #[.val (.ref a0_), .val (.int p1), .val (.double (fv dN)), .second, .val (.int la), .unset] [(.int sz_)])) _
      refine XS.goto X46.here hx rfl (pc0 := 50) (pc' := 55) rfl (hb hby d7_50) (by decide) (by decide) ?_
      refine XS.istore X46.here hx rfl (hb hby d7_55) rfl (l' := #[.val (.ref a0_), .val (.int p1), .val (.double (fv dN)), .second, .val (.int la), .val (.int sz_)]) rfl ?_
      exact k
    have hlt49 : szN < cN := sizeLt hc.2.1 hla hs.1 hc15_10
    obtain ⟨T49, L49, h49, ps49, X49, e49, z49, K49, N49, Fi49, Fd49, Fs49, PI49, PD49, hp49, st49⟩ := lpO Z a0 hw hx hZ hown hby hml a0_ p1 ia da ki kd cc la (sz_ + (1 : Int32)) cN dN fv hf h0 n0 g0 g1 g2 ne1 ne2 ne3 hc hd szN sz_ T46 _ h46 I D _ rfl X46 e46 (Nat.le_trans Z0 (Keep.of_wr W46).1) K46 N46 (Fld.other W46 F1 (Or.inr (slot_ne (Or.inr (hw _ (List.mem_of_getElem? (i := 12) rfl))) (Or.inl (hw _ (List.mem_of_getElem? (i := 21) rfl))) (by decide) (t := (.array .int)) (t' := .int) (by decide) (by decide)))) (Fld.other W46 F2 (Or.inr (slot_ne (Or.inr (hw _ (List.mem_of_getElem? (i := 14) rfl))) (Or.inl (hw _ (List.mem_of_getElem? (i := 21) rfl))) (by decide) (t := (.array .double)) (t' := .int) (by decide) (by decide)))) Fw46 (Arv.other PI W46 (Ne.symm ne1)) (Arv.other PD W46 (Ne.symm ne2)) hs.1 hlt49 hI hDl hD
    have a50 : ∀ t, Steps p.tables e below (T49.setTop (mkF m 114 #[.val (.ref a0_), .val (.int p1), .val (.double (fv dN)), .second, .val (.int la), .val (.int ps49)] [])) t → Steps p.tables e below (s₁.setTop (entryFrame m #[(.ref a0_), (.int p1), (.double (fv dN))] 6)) t := fun t k => a48 t (st49 t k)
    have hle49 := shift_le (0 : Int32) dN szN I D
    have hsl49 := shift_len (0 : Int32) dN szN I D
    have hrl49 : (shiftP 0 dN szN I D).2.2 < cN := Nat.lt_of_le_of_lt hle49 hlt49
    have ib49 := ixb hp49 hc.1 hrl49
    have tn49 := ixn hp49
    have a51 : ∀ t, Steps p.tables e below (T49.setTop (mkF m 115 #[.val (.ref a0_), .val (.int p1), .val (.double (fv dN)), .second, .val (.int la), .val (.int ps49)] [(.ref a0_)])) t → Steps p.tables e below (s₁.setTop (entryFrame m #[(.ref a0_), (.int p1), (.double (fv dN))] 6)) t := by
      intro t k
      refine a50 t ?_
      show Steps p.tables e below (T49.setTop (mkF m 114 #[.val (.ref a0_), .val (.int p1), .val (.double (fv dN)), .second, .val (.int la), .val (.int ps49)] [])) _
      refine XS.aloadN X49.here hx rfl (hb hby d7_114) rfl rfl ?_
      exact k
    obtain ⟨T52, X52, e52, st52⟩ := getF X49 hx hZ hown (host := "") (Or.inl (hw _ (List.mem_of_getElem? (i := 11) rfl))) Via.refl e49 Fi49 (g := (mkF m 115 #[.val (.ref a0_), .val (.int p1), .val (.double (fv dN)), .second, .val (.int la), .val (.int ps49)] [(.ref a0_)])) rfl rfl (hb hby d7_115)
    have a53 : ∀ t, Steps p.tables e below (T52.setTop (mkF m 118 #[.val (.ref a0_), .val (.int p1), .val (.double (fv dN)), .second, .val (.int la), .val (.int ps49)] [(.ref ia)])) t → Steps p.tables e below (s₁.setTop (entryFrame m #[(.ref a0_), (.int p1), (.double (fv dN))] 6)) t := fun t k => a51 t (st52 t k)
    have a54 : ∀ t, Steps p.tables e below (T52.setTop (mkF m 121 #[.val (.ref a0_), .val (.int p1), .val (.double (fv dN)), .second, .val (.int la), .val (.int ps49)] [(.int p1), (.int ps49), (.ref ia)])) t → Steps p.tables e below (s₁.setTop (entryFrame m #[(.ref a0_), (.int p1), (.double (fv dN))] 6)) t := by
      intro t k
      refine a53 t ?_
      show Steps p.tables e below (T52.setTop (mkF m 118 #[.val (.ref a0_), .val (.int p1), .val (.double (fv dN)), .second, .val (.int la), .val (.int ps49)] [(.ref ia)])) _
      refine XS.iload X52.here hx rfl (hb hby d7_118) rfl ?_
      refine XS.iloadN X52.here hx rfl (hb hby d7_120) rfl ?_
      exact k
    obtain ⟨cl55, Ar55, qc55, Sz55, Nn55, Hs55, Gs55⟩ := id PI49
    have hin55 : ¬ (ps49 < 0 ∨ cl55.slots.size ≤ (ps49).toNatClampNeg) := inb_of Sz55 ib49
    obtain ⟨T56, h56, X56, e56, W56, st56⟩ := stI X52 hx hZ e52 Ar55 (j := ps49) hin55 (g := (mkF m 121 #[.val (.ref a0_), .val (.int p1), .val (.double (fv dN)), .second, .val (.int la), .val (.int ps49)] [(.int p1), (.int ps49), (.ref ia)])) rfl rfl (hb hby d7_121)
    have V56 : Arv Z h56 ia ki .int cc (((shiftP 0 dN szN I D).1.map Value.int).set (shiftP 0 dN szN I D).2.2 (.int p1)) (.int (0 : Int32)) := Arv.set Ar55 qc55 Sz55 Nn55 Hs55 Gs55 rfl W56 (shiftP 0 dN szN I D).2.2 tn49 (by rw [List.length_map, hsl49.1, hI]; exact hrl49)
    have N56 := Fr.snoc X56 N49 g1
    have K56 : Keep h0 h56 [a0_, ia, da] := Keep.wr K49 W56 (Or.inl (List.mem_of_getElem? (i := 1) rfl))
    have a57 : ∀ t, Steps p.tables e below (T56.setTop (mkF m 122 #[.val (.ref a0_), .val (.int p1), .val (.double (fv dN)), .second, .val (.int la), .val (.int ps49)] [])) t → Steps p.tables e below (s₁.setTop (entryFrame m #[(.ref a0_), (.int p1), (.double (fv dN))] 6)) t := fun t k => a54 t (st56 t k)
    have a58 : ∀ t, Steps p.tables e below (T56.setTop (mkF m 123 #[.val (.ref a0_), .val (.int p1), .val (.double (fv dN)), .second, .val (.int la), .val (.int ps49)] [(.ref a0_)])) t → Steps p.tables e below (s₁.setTop (entryFrame m #[(.ref a0_), (.int p1), (.double (fv dN))] 6)) t := by
      intro t k
      refine a57 t ?_
      show Steps p.tables e below (T56.setTop (mkF m 122 #[.val (.ref a0_), .val (.int p1), .val (.double (fv dN)), .second, .val (.int la), .val (.int ps49)] [])) _
      refine XS.aloadN X56.here hx rfl (hb hby d7_122) rfl rfl ?_
      exact k
    obtain ⟨T59, X59, e59, st59⟩ := getF X56 hx hZ hown (host := "") (Or.inl (hw _ (List.mem_of_getElem? (i := 13) rfl))) Via.refl e56 (Fld.other W56 Fd49 (Or.inl ne1)) (g := (mkF m 123 #[.val (.ref a0_), .val (.int p1), .val (.double (fv dN)), .second, .val (.int la), .val (.int ps49)] [(.ref a0_)])) rfl rfl (hb hby d7_123)
    have a60 : ∀ t, Steps p.tables e below (T59.setTop (mkF m 126 #[.val (.ref a0_), .val (.int p1), .val (.double (fv dN)), .second, .val (.int la), .val (.int ps49)] [(.ref da)])) t → Steps p.tables e below (s₁.setTop (entryFrame m #[(.ref a0_), (.int p1), (.double (fv dN))] 6)) t := fun t k => a58 t (st59 t k)
    have a61 : ∀ t, Steps p.tables e below (T59.setTop (mkF m 129 #[.val (.ref a0_), .val (.int p1), .val (.double (fv dN)), .second, .val (.int la), .val (.int ps49)] [(.double (fv dN)), (.int ps49), (.ref da)])) t → Steps p.tables e below (s₁.setTop (entryFrame m #[(.ref a0_), (.int p1), (.double (fv dN))] 6)) t := by
      intro t k
      refine a60 t ?_
      show Steps p.tables e below (T59.setTop (mkF m 126 #[.val (.ref a0_), .val (.int p1), .val (.double (fv dN)), .second, .val (.int la), .val (.int ps49)] [(.ref da)])) _
      refine XS.iload X59.here hx rfl (hb hby d7_126) rfl ?_
      refine XS.dloadN X59.here hx rfl (hb hby d7_128) rfl ?_
      exact k
    obtain ⟨cl62, Ar62, qc62, Sz62, Nn62, Hs62, Gs62⟩ := id (Arv.other PD49 W56 (Ne.symm ne3))
    have hin62 : ¬ (ps49 < 0 ∨ cl62.slots.size ≤ (ps49).toNatClampNeg) := inb_of Sz62 ib49
    obtain ⟨T63, h63, X63, e63, W63, st63⟩ := stD X59 hx hZ e59 Ar62 (j := ps49) hin62 (g := (mkF m 129 #[.val (.ref a0_), .val (.int p1), .val (.double (fv dN)), .second, .val (.int la), .val (.int ps49)] [(.double (fv dN)), (.int ps49), (.ref da)])) rfl rfl (hb hby d7_129)
    have V63 : Arv Z h63 da kd .double cc (((shiftP 0 dN szN I D).2.1.map (fd fv)).set (shiftP 0 dN szN I D).2.2 (.double (fv dN))) (.double (0 : UInt64)) := Arv.set Ar62 qc62 Sz62 Nn62 Hs62 Gs62 rfl W63 (shiftP 0 dN szN I D).2.2 tn49 (by rw [List.length_map, hsl49.2, hDl]; exact hrl49)
    have N63 := Fr.snoc X63 N56 g2
    have K63 : Keep h0 h63 [a0_, ia, da] := Keep.wr K56 W63 (Or.inl (List.mem_of_getElem? (i := 2) rfl))
    have a64 : ∀ t, Steps p.tables e below (T63.setTop (mkF m 130 #[.val (.ref a0_), .val (.int p1), .val (.double (fv dN)), .second, .val (.int la), .val (.int ps49)] [])) t → Steps p.tables e below (s₁.setTop (entryFrame m #[(.ref a0_), (.int p1), (.double (fv dN))] 6)) t := fun t k => a61 t (st63 t k)
    obtain ⟨fs, hr, hrun, hended, hW, hsame⟩ := X63.leave (v := none) (fun _ => rfl)
    refine ⟨_, _, a64 _ ?_, hrun, hended, _, _, rfl, ?_, ⟨_, rfl⟩, hW, hsame.mono (by decide) (by decide)⟩
    · show Steps p.tables e below (T63.setTop (mkF m 130 #[.val (.ref a0_), .val (.int p1), .val (.double (fv dN)), .second, .val (.int la), .val (.int ps49)] [])) _
      exact X63.returnOut hx Bd.returns (hb hby d7_130) hr
    · show QO Z a0_ p1 ia da ki kd cc sz_ cN szN dN I D fv h0 n0 _ T63.heap _
      rw [e63]
      have hO : (offerP (0 : Int32) cN p1 dN (I, D, szN)) = ((putP (0 : Int32) p1 dN szN I D).1, (putP (0 : Int32) p1 dN szN I D).2, szN + 1) := by unfold offerP; rw [if_neg (show ¬ cN - 1 < szN from fun q => hc15_10 ((lt32 hla hs.1).mpr q))]
      exact ⟨rfl, N63, K63, (Fld.other W63 (Fld.other W56 Fi49 (Or.inl ne1)) (Or.inl ne2)), (Fld.other W63 (Fld.other W56 Fd49 (Or.inl ne1)) (Or.inl ne2)), _, (Fld.other W63 (Fld.other W56 Fs49 (Or.inl ne1)) (Or.inl ne2)), by rw [hO]; exact add32 hs.1 (show (1 : Int32).toInt = ((1 : Nat) : Int) by decide) (small hs.2 hc.2.2), by rw [hO]; unfold putP; rw [List.map_set]; exact (Arv.other V56 W63 ne3), by rw [hO]; unfold putP; rw [List.map_set]; exact V63⟩
theorem ef_rmCp (m : MethodId) (x0 : Addr) (x1 : Int32) : entryFrame m #[(.ref x0), (.int x1)] 3 = mkF m 0 #[.val (.ref x0), .val (.int x1), .unset] [] := by first | (simp [entryFrame, mkF, argsToLocals, Value.category]; done) | rfl
theorem d4_0 : decode jdk_65_method_123_code 0 = .ok (.iload_n 1, 1) := by decide +kernel
theorem d4_1 : decode jdk_65_method_123_code 1 = .ok (.aload_n 0, 1) := by decide +kernel
theorem d4_2 : decode jdk_65_method_123_code 2 = .ok (.arraylength, 1) := by decide +kernel
theorem d4_3 : decode jdk_65_method_123_code 3 = .ok (.if_icmp .ne 11, 3) := by decide +kernel
theorem d4_6 : decode jdk_65_method_123_code 6 = .ok (.aload_n 0, 1) := by decide +kernel
theorem d4_7 : decode jdk_65_method_123_code 7 = .ok (.invokevirtual 316, 3) := by decide +kernel
theorem d4_10 : decode jdk_65_method_123_code 10 = .ok (.checkcast 317, 3) := by decide +kernel
theorem d4_13 : decode jdk_65_method_123_code 13 = .ok (.areturn, 1) := by decide +kernel
theorem d4_14 : decode jdk_65_method_123_code 14 = .ok (.iload_n 1, 1) := by decide +kernel
theorem d4_15 : decode jdk_65_method_123_code 15 = .ok (.newarray .int, 2) := by decide +kernel
theorem d4_17 : decode jdk_65_method_123_code 17 = .ok (.astore_n 2, 1) := by decide +kernel
theorem d4_18 : decode jdk_65_method_123_code 18 = .ok (.aload_n 0, 1) := by decide +kernel
theorem d4_19 : decode jdk_65_method_123_code 19 = .ok (.iconst 0, 1) := by decide +kernel
theorem d4_20 : decode jdk_65_method_123_code 20 = .ok (.aload_n 2, 1) := by decide +kernel
theorem d4_21 : decode jdk_65_method_123_code 21 = .ok (.iconst 0, 1) := by decide +kernel
theorem d4_22 : decode jdk_65_method_123_code 22 = .ok (.aload_n 0, 1) := by decide +kernel
theorem d4_23 : decode jdk_65_method_123_code 23 = .ok (.arraylength, 1) := by decide +kernel
theorem d4_24 : decode jdk_65_method_123_code 24 = .ok (.iload_n 1, 1) := by decide +kernel
theorem d4_25 : decode jdk_65_method_123_code 25 = .ok (.invokestatic 304, 3) := by decide +kernel
theorem own_pd0 : parseMethodDescriptor "(II)I" = some ⟨[.int, .int], some .int⟩ := by decide +kernel
theorem d4_28 : decode jdk_65_method_123_code 28 = .ok (.invokestatic 150, 3) := by decide +kernel
theorem d4_31 : decode jdk_65_method_123_code 31 = .ok (.aload_n 2, 1) := by decide +kernel
theorem d4_32 : decode jdk_65_method_123_code 32 = .ok (.areturn, 1) := by decide +kernel
theorem own_pn_java_util_Arrays : plainName "java/util/Arrays" = true := by first | (simp [plainName, overriddenIn]; done) | decide +kernel
def QCp (Z : State) (ar_ : Addr) (p1 : Int32) (kk : ClassId) (cc : Int32) (cN nN : Nat) (I : List Int32) (h0 : Heap) (n0 : Nat) (v : Option Value) (h : Heap) (L : List Loc) : Prop := ∃ (b : Addr) (kb : ClassId), v = some (.ref b) ∧ Fr n0 L ∧ Keep h0 h [] ∧ Arv Z h b kb .int p1 ((I.take nN).map Value.int) (.int (0 : Int32))
set_option maxRecDepth 65536 in
set_option maxHeartbeats 40000000 in
theorem rmCp (l : Launch) (Z : State) (a0 : Array Value) (hw : ∀ d ∈ tables_1, d.before a0 Z = true) (ws : List Jvm.Cond) (ar_ : Addr) (p1 : Int32) (kk : ClassId) (cc : Int32) (cN nN : Nat) (I : List Int32) (h0 : Heap) (n0 : Nat) (Z0 : n0 ≤ h0.size) (PI : Arv Z h0 ar_ kk .int cc (I.map Value.int) (.int (0 : Int32))) (XI : Exa Z h0 ar_ "[I") (hc : cc.toInt = (cN : Int) ∧ 1 ≤ cN ∧ cN ≤ 5) (hn : p1.toInt = (nN : Int) ∧ nN ≤ cN) (hI : I.length = cN) :
    MetFree l (⟨"java/util/Arrays", "copyOf", "([II)[I"⟩ : MethodName) (head1 (Jvm.Cond.code (⟨"java/util/Arrays", "copyOf", "([II)[I"⟩ : MethodName) jdk_65_method_123_code 3 (some (.array .int)) :: ws) ({ frames := 1, cells := 1, slots := 5, locals := 60 } : Room)) (fun a U => a = #[(.ref ar_), (.int p1)] ∧ Z.Warmed39 U.vm ∧ U.heap = h0) (fun _ _ _ _ _ => True) (fun _ U o U' => ∃ v L, o = .returned v ∧ QCp Z ar_ p1 kk cc cN nN I h0 n0 v U'.heap L ∧ FrameEnd U o U' L ({ frames := 1, cells := 1, slots := 5, locals := 60 } : Room).cells ({ frames := 1, cells := 1, slots := 5, locals := 60 } : Room).slots) := by
  refine MetFree.of_bodySF (plainFor_of_name own_pn_java_util_Arrays) hisR ?_
  intro p e s m args below meth c s₁ Bd hml0 hP hK
  obtain ⟨rfl, hZ, hh⟩ := hP
  have hx := Bd.exec
  have hby := Bd.bytes
  have hml : c.maxLocals = 3 := hml0
  have hown : s.vm.findClass "java/util/Arrays" = some m.cls := findClass_of_methodNamed Bd.named
  have hnm := (name_of_methodNamed Bd.named Bd.method).1
  have X0 : Stand p l e ({ frames := 1, cells := 1, slots := 5, locals := 60 } : Room) s m #[(.ref ar_), (.int p1)] below meth c s₁ [] 0 0 := Stand.of_body Bd
  have e0 : s₁.heap = h0 := by rw [← hh, Bd.state]; rfl
  have N0 := Fr.nil n0
  have pre0 : ∀ t, Steps p.tables e below (s₁.setTop (mkF m 0 #[.val (.ref ar_), .val (.int p1), .unset] [])) t → Steps p.tables e below (s₁.setTop (entryFrame m #[(.ref ar_), (.int p1)] 3)) t := fun t k => castTop (ef_rmCp m ar_ p1) k
  have a1 : ∀ t, Steps p.tables e below (s₁.setTop (mkF m 2 #[.val (.ref ar_), .val (.int p1), .unset] [(.ref ar_), (.int p1)])) t → Steps p.tables e below (s₁.setTop (entryFrame m #[(.ref ar_), (.int p1)] 3)) t := by
    intro t k
    refine pre0 t ?_
    show Steps p.tables e below (s₁.setTop (mkF m 0 #[.val (.ref ar_), .val (.int p1), .unset] [])) _
    refine XS.iloadN X0.here hx rfl (hb hby d4_0) rfl ?_
    refine XS.aloadN X0.here hx rfl (hb hby d4_1) rfl rfl ?_
    exact k
  obtain ⟨cl2, Ar2, qc2, Sz2, Nn2, Hs2, Gs2⟩ := id PI
  have a3 : ∀ t, Steps p.tables e below (s₁.setTop (mkF m 3 #[.val (.ref ar_), .val (.int p1), .unset] [(.int cc), (.int p1)])) t → Steps p.tables e below (s₁.setTop (entryFrame m #[(.ref ar_), (.int p1)] 3)) t := by
    intro t k
    refine a1 t ?_
    show Steps p.tables e below (s₁.setTop (mkF m 2 #[.val (.ref ar_), .val (.int p1), .unset] [(.ref ar_), (.int p1)])) _
    refine X0.arraylength hx (by rw [e0]; exact Ar2.1) (State.isArrayOf_alike hZ.alike Ar2.2.1) (g := (mkF m 2 #[.val (.ref ar_), .val (.int p1), .unset] [(.ref ar_), (.int p1)])) rfl rfl (hb hby d4_2) _ ?_
    rw [len_of Sz2 Nn2]
    exact k
  by_cases hc3_4 : p1 = cc
  ·
    have a5 : ∀ t, Steps p.tables e below (s₁.setTop (mkF m 7 #[.val (.ref ar_), .val (.int p1), .unset] [(.ref ar_)])) t → Steps p.tables e below (s₁.setTop (entryFrame m #[(.ref ar_), (.int p1)] 3)) t := by
      intro t k
      refine a3 t ?_
      show Steps p.tables e below (s₁.setTop (mkF m 3 #[.val (.ref ar_), .val (.int p1), .unset] [(.int cc), (.int p1)])) _
      refine XS.icmpNo X0.here hx rfl (hb hby d4_3) rfl (teq hc3_4).2 ?_
      refine XS.aloadN X0.here hx rfl (hb hby d4_6) rfl rfl ?_
      exact k
    obtain ⟨cl6, Ar6, qc6, Sz6, Nn6, Hs6, Gs6⟩ := id PI
    have FC6 : FitC Z cl6 := fitC_of Ar6 fun i hi v hv => by rw [Hs6 i hi] at hv; cases hv; exact Gs6 i hi
    obtain ⟨T7, h7, X7, e7, E7, A7, DX7, st7⟩ := cloneA X0 hx hZ hown (hw _ (List.mem_of_getElem? (i := 44) rfl)) (hw _ (List.mem_of_getElem? (i := 45) rfl)) (hw _ (List.mem_of_getElem? (i := 49) rfl)) (hw _ (List.mem_of_getElem? (i := 47) rfl)) (hw _ (List.mem_of_getElem? (i := 48) rfl)) (hw _ (List.mem_of_getElem? (i := 50) rfl)) e0 Ar6 XI FC6 (g := (mkF m 7 #[.val (.ref ar_), .val (.int p1), .unset] [(.ref ar_)])) rfl (by rw [hml]; rfl) (rest := []) rfl (hb hby d4_7) (by decide) (W := 0) (by show 2 * 0 + _ ≤ _; exact Nat.le_of_eq rfl) (by decide) (cap := 5) (by rw [Sz6]; exact (by rw [ixn hc.1]; exact hc.2.2)) (by decide) (by decide)
    obtain ⟨b7, g7⟩ : ∃ z, z = h0.size := ⟨_, rfl⟩
    rw [← g7] at A7 DX7 st7
    have g_b7 : n0 ≤ b7 := Nat.le_trans Z0 (Nat.le_of_eq g7.symm)
    have sz_b7 : h0.size ≤ b7 := Nat.le_trans ((Keep.refl h0 [])).1 (Nat.le_of_eq g7.symm)
    have V_b7 : Arv Z h7 b7 kk .int cc (I.map Value.int) (.int (0 : Int32)) := ⟨cloneOf cl6, A7, qc6, Sz6, Nn6, Hs6, Gs6⟩
    have K7 : Keep h0 h7 [] := Keep.ext (Keep.refl h0 []) E7
    have a8 : ∀ t, Steps p.tables e below (T7.setTop (mkF m 10 #[.val (.ref ar_), .val (.int p1), .unset] [(.ref b7)])) t → Steps p.tables e below (s₁.setTop (entryFrame m #[(.ref ar_), (.int p1)] 3)) t := fun t k => a5 t (st7 t k)
    obtain ⟨T9, X9, e9, st9⟩ := castY X7 hx hZ hown (hw _ (List.mem_of_getElem? (i := 51) rfl)) e7 (Ins.self DX7) (g := (mkF m 10 #[.val (.ref ar_), .val (.int p1), .unset] [(.ref b7)])) rfl rfl (hb hby d4_10)
    have a10 : ∀ t, Steps p.tables e below (T9.setTop (mkF m 13 #[.val (.ref ar_), .val (.int p1), .unset] [(.ref b7)])) t → Steps p.tables e below (s₁.setTop (entryFrame m #[(.ref ar_), (.int p1)] 3)) t := fun t k => a8 t (st9 t k)
    obtain ⟨fs, hr, hrun, hended, hW, hsame⟩ := X9.leave (v := some (.ref b7)) (fun h => by rw [Bd.returns] at h; cases h)
    refine ⟨_, _, a10 _ ?_, hrun, hended, _, _, rfl, ?_, ⟨_, rfl⟩, hW, hsame.mono (by decide) (by decide)⟩
    · show Steps p.tables e below (T9.setTop (mkF m 13 #[.val (.ref ar_), .val (.int p1), .unset] [(.ref b7)])) _
      exact retOut X9 hx Bd.returns rfl (Or.inr (Or.inr (Or.inr (Or.inr ⟨rfl, rfl, rfl⟩)))) (hb hby d4_13) hr
    · show QCp Z ar_ p1 kk cc cN nN I h0 n0 _ T9.heap _
      rw [e9]
      have e1 := (eq32 hn.1 hc.1).mp hc3_4
      refine ⟨_, kk, rfl, N0, K7, ?_⟩
      rw [take_all (hI.trans e1.symm), hc3_4]; exact V_b7
  ·
    have hn1 : ¬ p1 < 0 := nonneg hn.1
    have a11 : ∀ t, Steps p.tables e below (s₁.setTop (mkF m 15 #[.val (.ref ar_), .val (.int p1), .unset] [(.int p1)])) t → Steps p.tables e below (s₁.setTop (entryFrame m #[(.ref ar_), (.int p1)] 3)) t := by
      intro t k
      refine a3 t ?_
      show Steps p.tables e below (s₁.setTop (mkF m 3 #[.val (.ref ar_), .val (.int p1), .unset] [(.int cc), (.int p1)])) _
      refine XS.icmpYes X0.here hx rfl (pc0 := 3) (pc' := 14) rfl (hb hby d4_3) rfl (feq hc3_4).2 (by decide) (by decide) ?_
      refine XS.iloadN X0.here hx rfl (hb hby d4_14) rfl ?_
      exact k
    obtain ⟨T12, h12, kk12, X12, e12, E12, A12, st12⟩ := newP X0 hx hZ (hw _ (List.mem_of_getElem? (i := 0) rfl)) e0 (g := (mkF m 15 #[.val (.ref ar_), .val (.int p1), .unset] [(.int p1)])) rfl (hb hby d4_15) rfl hn1 (cap := 5) (by rw [ixn hn.1]; have := hn.2; have := hc.2.2; omega) (by decide) (by decide) (by decide)
    obtain ⟨b12, g12⟩ : ∃ z, z = h0.size := ⟨_, rfl⟩
    rw [← g12] at A12 st12
    have g_b12 : n0 ≤ b12 := Nat.le_trans Z0 (Nat.le_of_eq g12.symm)
    have sz_b12 : h0.size ≤ b12 := Nat.le_trans ((Keep.refl h0 [])).1 (Nat.le_of_eq g12.symm)
    have V_b12 : Arv Z h12 b12 kk12 .int p1 [] (.int (0 : Int32)) := (Arv.new A12 hn1)
    have K12 : Keep h0 h12 [] := Keep.ext (Keep.refl h0 []) E12
    have a13 : ∀ t, Steps p.tables e below (T12.setTop (mkF m 17 #[.val (.ref ar_), .val (.int p1), .unset] [(.ref b12)])) t → Steps p.tables e below (s₁.setTop (entryFrame m #[(.ref ar_), (.int p1)] 3)) t := fun t k => a11 t (st12 t k)
    have a14 : ∀ t, Steps p.tables e below (T12.setTop (mkF m 18 #[.val (.ref ar_), .val (.int p1), .val (.ref b12)] [])) t → Steps p.tables e below (s₁.setTop (entryFrame m #[(.ref ar_), (.int p1)] 3)) t := by
      intro t k
      refine a13 t ?_
      show Steps p.tables e below (T12.setTop (mkF m 17 #[.val (.ref ar_), .val (.int p1), .unset] [(.ref b12)])) _
      refine XS.astoreN X12.here hx rfl (hb hby d4_17) rfl rfl (l' := #[.val (.ref ar_), .val (.int p1), .val (.ref b12)]) rfl ?_
      exact k
    have VP_b12 : Arv Z h12 b12 kk12 .int p1 (List.replicate nN (.int (0 : Int32))) (.int (0 : Int32)) := Arv.pad V_b12 (pad_rep [] (.int (0 : Int32)) nN)
    have a15 : ∀ t, Steps p.tables e below (T12.setTop (mkF m 23 #[.val (.ref ar_), .val (.int p1), .val (.ref b12)] [(.ref ar_), (.int (0 : Int32)), (.ref b12), (.int (0 : Int32)), (.ref ar_)])) t → Steps p.tables e below (s₁.setTop (entryFrame m #[(.ref ar_), (.int p1)] 3)) t := by
      intro t k
      refine a14 t ?_
      show Steps p.tables e below (T12.setTop (mkF m 18 #[.val (.ref ar_), .val (.int p1), .val (.ref b12)] [])) _
      refine XS.aloadN X12.here hx rfl (hb hby d4_18) rfl rfl ?_
      refine XS.iconst X12.here hx rfl (hb hby d4_19) ?_
      refine XS.aloadN X12.here hx rfl (hb hby d4_20) rfl rfl ?_
      refine XS.iconst X12.here hx rfl (hb hby d4_21) ?_
      refine XS.aloadN X12.here hx rfl (hb hby d4_22) rfl rfl ?_
      exact k
    obtain ⟨cl16, Ar16, qc16, Sz16, Nn16, Hs16, Gs16⟩ := id (PI.ext E12)
    have a17 : ∀ t, Steps p.tables e below (T12.setTop (mkF m 25 #[.val (.ref ar_), .val (.int p1), .val (.ref b12)] [(.int p1), (.int cc), (.int (0 : Int32)), (.ref b12), (.int (0 : Int32)), (.ref ar_)])) t → Steps p.tables e below (s₁.setTop (entryFrame m #[(.ref ar_), (.int p1)] 3)) t := by
      intro t k
      refine a15 t ?_
      show Steps p.tables e below (T12.setTop (mkF m 23 #[.val (.ref ar_), .val (.int p1), .val (.ref b12)] [(.ref ar_), (.int (0 : Int32)), (.ref b12), (.int (0 : Int32)), (.ref ar_)])) _
      refine X12.arraylength hx (by rw [e12]; exact Ar16.1) (State.isArrayOf_alike hZ.alike Ar16.2.1) (g := (mkF m 23 #[.val (.ref ar_), .val (.int p1), .val (.ref b12)] [(.ref ar_), (.int (0 : Int32)), (.ref b12), (.int (0 : Int32)), (.ref ar_)])) rfl rfl (hb hby d4_23) _ ?_
      rw [len_of Sz16 Nn16]
      refine XS.iloadN X12.here hx rfl (hb hby d4_24) rfl ?_
      exact k
    obtain ⟨_, _, ⟨T18, L18, k18, n18⟩, -, X18, ⟨Lc18, hQ18, l18, y18, z18⟩, st18⟩ := Jvm.LawKit.callS X12 hx (y := (⟨"java/lang/Math", "min", "(II)I"⟩ : MethodName)) hown (mvT hZ (hw _ (List.mem_of_getElem? (i := 26) rfl))) (mvT hZ (hw _ (List.mem_of_getElem? (i := 27) rfl))) (mvT hZ (hw _ (List.mem_of_getElem? (i := 28) rfl))) (mvT hZ (hw _ (List.mem_of_getElem? (i := 29) rfl))) (by decide) (backOf (W := 4) (rmMin l Z a0 hw [] cc p1 h12 n0 (Nat.le_trans Z0 E12.1) ) hZ (hw _ (List.mem_of_getElem? (i := 29) rfl)) (hw _ (List.mem_of_getElem? (i := 28) rfl)) (by decide) (by decide)) (g := (mkF m 25 #[.val (.ref ar_), .val (.int p1), .val (.ref b12)] [(.int p1), (.int cc), (.int (0 : Int32)), (.ref b12), (.int (0 : Int32)), (.ref ar_)])) rfl (by rw [hml]; rfl) (argsL := [(.int cc), (.int p1)]) (rest := [(.int (0 : Int32)), (.ref b12), (.int (0 : Int32)), (.ref ar_)]) (lenOf own_pd0 rfl) rfl (by show 2 * 0 + _ ≤ _; exact Nat.le_of_eq rfl) (hb hby d4_25) (fun _ _ => ⟨rfl, e12, (by decide : 1 + 0 ≤ _), (by decide : 5 + 0 ≤ _)⟩)
    dsimp only [Pt.U, Pt.locs, Pt.cells, Pt.slots] at X18 l18 y18 z18 st18 hQ18
    subst l18 y18 z18
    obtain ⟨rfl, N18q, e18q⟩ := hQ18
    have N18 := Fr.app N0 N18q
    have a19 : ∀ t, Steps p.tables e below (T18.setTop (mkF m 28 #[.val (.ref ar_), .val (.int p1), .val (.ref b12)] [(.int (if p1 < cc then p1 else cc)), (.int (0 : Int32)), (.ref b12), (.int (0 : Int32)), (.ref ar_)])) t → Steps p.tables e below (s₁.setTop (entryFrame m #[(.ref ar_), (.int p1)] 3)) t := fun t k => a17 t (st18 t k)
    obtain ⟨mn, h_mn⟩ : ∃ z : Int32, z = (if p1 < cc then p1 else cc) := ⟨_, rfl⟩
    rw [← h_mn] at a19
    have hmn : ¬ mn < 0 ∧ mn.toNatClampNeg = nN := by
      have e : mn = p1 := by
        rw [h_mn]
        by_cases q : p1 < cc
        · rw [if_pos q]
        · rw [if_neg q]; exact (eq32 hc.1 hn.1).mpr (by have := hn.2; rw [lt32 hn.1 hc.1] at q; omega)
      rw [e]; exact ⟨hn1, ixn hn.1⟩
    have hcv : ((List.replicate nN ((.int (0 : Int32)) : Value)).take ((0 : Int32)).toNatClampNeg ++ ((I.take nN).map Value.int) ++ (List.replicate nN ((.int (0 : Int32)) : Value)).drop (((0 : Int32)).toNatClampNeg + (mn).toNatClampNeg)) = ((I.take nN).map Value.int) := by
      rw [show (0 : Int32).toNatClampNeg = 0 by decide, hmn.2, List.take_zero, List.nil_append, List.drop_eq_nil_of_le (by rw [List.length_replicate]; omega), List.append_nil]
    obtain ⟨T20, h20, LL20, X20, e20, N20, K20q, V20, st20⟩ := cpA X18 hx hZ hown (hw _ (List.mem_of_getElem? (i := 30) rfl)) (hw _ (List.mem_of_getElem? (i := 33) rfl)) (hw _ (List.mem_of_getElem? (i := 31) rfl)) (hw _ (List.mem_of_getElem? (i := 32) rfl)) e18q (PI.ext E12) VP_b12 (Or.inl ⟨rfl, rfl⟩) (by decide) (by decide) hmn.1 (by rw [show (0 : Int32).toNatClampNeg = 0 by decide, hmn.2, ixn hc.1]; have := hn.2; omega) (by rw [show (0 : Int32).toNatClampNeg = 0 by decide, hmn.2, ixn hn.1]; omega) (us := ((I.take nN).map Value.int)) (by rw [hmn.2, show (0 : Int32).toNatClampNeg = 0 by decide]; exact (range_get I nN (by rw [hI]; exact hn.2)).symm) (by rw [show (0 : Int32).toNatClampNeg = 0 by decide, hmn.2, List.length_replicate]; omega) N18 g_b12 (g := (mkF m 28 #[.val (.ref ar_), .val (.int p1), .val (.ref b12)] [(.int mn), (.int (0 : Int32)), (.ref b12), (.int (0 : Int32)), (.ref ar_)])) rfl (by rw [hml]; rfl) (rest := []) rfl (hb hby d4_28) (by decide) (W := 0) (by show 2 * 0 + _ ≤ _; exact Nat.le_of_eq rfl) (by decide)
    have K20 : Keep h0 h20 [] := Keep.trans K12 K20q (allS (Or.inr sz_b12) all0)
    have VV20 : Arv Z h20 b12 kk12 .int p1 ((I.take nN).map Value.int) (.int (0 : Int32)) := by have q := V20; rw [hcv] at q; exact q
    have a21 : ∀ t, Steps p.tables e below (T20.setTop (mkF m 31 #[.val (.ref ar_), .val (.int p1), .val (.ref b12)] [])) t → Steps p.tables e below (s₁.setTop (entryFrame m #[(.ref ar_), (.int p1)] 3)) t := fun t k => a19 t (st20 t k)
    have a22 : ∀ t, Steps p.tables e below (T20.setTop (mkF m 32 #[.val (.ref ar_), .val (.int p1), .val (.ref b12)] [(.ref b12)])) t → Steps p.tables e below (s₁.setTop (entryFrame m #[(.ref ar_), (.int p1)] 3)) t := by
      intro t k
      refine a21 t ?_
      show Steps p.tables e below (T20.setTop (mkF m 31 #[.val (.ref ar_), .val (.int p1), .val (.ref b12)] [])) _
      refine XS.aloadN X20.here hx rfl (hb hby d4_31) rfl rfl ?_
      exact k
    obtain ⟨fs, hr, hrun, hended, hW, hsame⟩ := X20.leave (v := some (.ref b12)) (fun h => by rw [Bd.returns] at h; cases h)
    refine ⟨_, _, a22 _ ?_, hrun, hended, _, _, rfl, ?_, ⟨_, rfl⟩, hW, hsame.mono (by decide) (by decide)⟩
    · show Steps p.tables e below (T20.setTop (mkF m 32 #[.val (.ref ar_), .val (.int p1), .val (.ref b12)] [(.ref b12)])) _
      exact retOut X20 hx Bd.returns rfl (Or.inr (Or.inr (Or.inr (Or.inr ⟨rfl, rfl, rfl⟩)))) (hb hby d4_32) hr
    · show QCp Z ar_ p1 kk cc cN nN I h0 n0 _ T20.heap _
      rw [e20]
      exact ⟨_, _, rfl, N20, K20, VV20⟩
theorem ef_rmIn (m : MethodId) (x0 : Addr) : entryFrame m #[(.ref x0)] 1 = mkF m 0 #[.val (.ref x0)] [] := by first | (simp [entryFrame, mkF, argsToLocals, Value.category]; done) | rfl
theorem d3_0 : decode prog_21_method_3_code 0 = .ok (.aload_n 0, 1) := by decide +kernel
theorem d3_1 : decode prog_21_method_3_code 1 = .ok (.getfield 7, 3) := by decide +kernel
theorem d3_4 : decode prog_21_method_3_code 4 = .ok (.aload_n 0, 1) := by decide +kernel
theorem d3_5 : decode prog_21_method_3_code 5 = .ok (.getfield 17, 3) := by decide +kernel
theorem d3_8 : decode prog_21_method_3_code 8 = .ok (.invokestatic 21, 3) := by decide +kernel
theorem own_pd1 : parseMethodDescriptor "([II)[I" = some ⟨[(.array .int), .int], some (.array .int)⟩ := by decide +kernel
theorem d3_11 : decode prog_21_method_3_code 11 = .ok (.areturn, 1) := by decide +kernel
def QIn (Z : State) (a0_ : Addr) (ia : Addr) (ki : ClassId) (cc sz_ : Int32) (cN szN : Nat) (I : List Int32) (h0 : Heap) (n0 : Nat) (v : Option Value) (h : Heap) (L : List Loc) : Prop := ∃ (b : Addr) (kb : ClassId), v = some (.ref b) ∧ Fr n0 L ∧ Keep h0 h [] ∧ Arv Z h b kb .int sz_ ((I.take szN).map Value.int) (.int (0 : Int32))
set_option maxRecDepth 65536 in
set_option maxHeartbeats 40000000 in
theorem rmIn (l : Launch) (Z : State) (a0 : Array Value) (hw : ∀ d ∈ tables_1, d.before a0 Z = true) (ws : List Jvm.Cond) (a0_ : Addr) (ia : Addr) (ki : ClassId) (cc sz_ : Int32) (cN szN : Nat) (I : List Int32) (h0 : Heap) (n0 : Nat) (Z0 : n0 ≤ h0.size) (F1 : Fld Z h0 a0_ "com/example/tillerfront/tillerfront/engine/Nearest" "indices" "[I" (.ref ia)) (F3 : Fld Z h0 a0_ "com/example/tillerfront/tillerfront/engine/Nearest" "size" "I" (.int sz_)) (PI : Arv Z h0 ia ki .int cc (I.map Value.int) (.int (0 : Int32))) (XI : Exa Z h0 ia "[I") (hc : cc.toInt = (cN : Int) ∧ 1 ≤ cN ∧ cN ≤ 5) (hs : sz_.toInt = (szN : Int) ∧ szN ≤ cN) (hI : I.length = cN) :
    MetFree l (⟨"com/example/tillerfront/tillerfront/engine/Nearest", "indices", "()[I"⟩ : MethodName) (head1 (Jvm.Cond.code (⟨"com/example/tillerfront/tillerfront/engine/Nearest", "indices", "()[I"⟩ : MethodName) prog_21_method_3_code 1 (some (.array .int)) :: ws) ({ frames := 2, cells := 1, slots := 5, locals := 80 } : Room)) (fun a U => a = #[(.ref a0_)] ∧ Z.Warmed39 U.vm ∧ U.heap = h0) (fun _ _ _ _ _ => True) (fun _ U o U' => ∃ v L, o = .returned v ∧ QIn Z a0_ ia ki cc sz_ cN szN I h0 n0 v U'.heap L ∧ FrameEnd U o U' L ({ frames := 2, cells := 1, slots := 5, locals := 80 } : Room).cells ({ frames := 2, cells := 1, slots := 5, locals := 80 } : Room).slots) := by
  refine MetFree.of_bodySF (plainFor_of_name own_pn_com_example_tillerfront_tillerfront_engine_Nearest) hisR ?_
  intro p e s m args below meth c s₁ Bd hml0 hP hK
  obtain ⟨rfl, hZ, hh⟩ := hP
  have hx := Bd.exec
  have hby := Bd.bytes
  have hml : c.maxLocals = 1 := hml0
  have hown : s.vm.findClass "com/example/tillerfront/tillerfront/engine/Nearest" = some m.cls := findClass_of_methodNamed Bd.named
  have hnm := (name_of_methodNamed Bd.named Bd.method).1
  have X0 : Stand p l e ({ frames := 2, cells := 1, slots := 5, locals := 80 } : Room) s m #[(.ref a0_)] below meth c s₁ [] 0 0 := Stand.of_body Bd
  have e0 : s₁.heap = h0 := by rw [← hh, Bd.state]; rfl
  have N0 := Fr.nil n0
  have pre0 : ∀ t, Steps p.tables e below (s₁.setTop (mkF m 0 #[.val (.ref a0_)] [])) t → Steps p.tables e below (s₁.setTop (entryFrame m #[(.ref a0_)] 1)) t := fun t k => castTop (ef_rmIn m a0_) k
  have a1 : ∀ t, Steps p.tables e below (s₁.setTop (mkF m 1 #[.val (.ref a0_)] [(.ref a0_)])) t → Steps p.tables e below (s₁.setTop (entryFrame m #[(.ref a0_)] 1)) t := by
    intro t k
    refine pre0 t ?_
    show Steps p.tables e below (s₁.setTop (mkF m 0 #[.val (.ref a0_)] [])) _
    refine XS.aloadN X0.here hx rfl (hb hby d3_0) rfl rfl ?_
    exact k
  obtain ⟨T2, X2, e2, st2⟩ := getF X0 hx hZ hown (host := "") (Or.inl (hw _ (List.mem_of_getElem? (i := 11) rfl))) Via.refl e0 F1 (g := (mkF m 1 #[.val (.ref a0_)] [(.ref a0_)])) rfl rfl (hb hby d3_1)
  have a3 : ∀ t, Steps p.tables e below (T2.setTop (mkF m 4 #[.val (.ref a0_)] [(.ref ia)])) t → Steps p.tables e below (s₁.setTop (entryFrame m #[(.ref a0_)] 1)) t := fun t k => a1 t (st2 t k)
  have a4 : ∀ t, Steps p.tables e below (T2.setTop (mkF m 5 #[.val (.ref a0_)] [(.ref a0_), (.ref ia)])) t → Steps p.tables e below (s₁.setTop (entryFrame m #[(.ref a0_)] 1)) t := by
    intro t k
    refine a3 t ?_
    show Steps p.tables e below (T2.setTop (mkF m 4 #[.val (.ref a0_)] [(.ref ia)])) _
    refine XS.aloadN X2.here hx rfl (hb hby d3_4) rfl rfl ?_
    exact k
  obtain ⟨T5, X5, e5, st5⟩ := getF X2 hx hZ hown (host := "") (Or.inl (hw _ (List.mem_of_getElem? (i := 20) rfl))) Via.refl e2 F3 (g := (mkF m 5 #[.val (.ref a0_)] [(.ref a0_), (.ref ia)])) rfl rfl (hb hby d3_5)
  have a6 : ∀ t, Steps p.tables e below (T5.setTop (mkF m 8 #[.val (.ref a0_)] [(.int sz_), (.ref ia)])) t → Steps p.tables e below (s₁.setTop (entryFrame m #[(.ref a0_)] 1)) t := fun t k => a4 t (st5 t k)
  obtain ⟨_, _, ⟨T7, L7, k7, n7⟩, -, X7, ⟨Lc7, hQ7, l7, y7, z7⟩, st7⟩ := Jvm.LawKit.callS X5 hx (y := (⟨"java/util/Arrays", "copyOf", "([II)[I"⟩ : MethodName)) hown (mvT hZ (hw _ (List.mem_of_getElem? (i := 22) rfl))) (mvT hZ (hw _ (List.mem_of_getElem? (i := 23) rfl))) (mvT hZ (hw _ (List.mem_of_getElem? (i := 24) rfl))) (mvT hZ (hw _ (List.mem_of_getElem? (i := 25) rfl))) (by decide) (backOf (W := 0) (rmCp l Z a0 hw [] ia sz_ ki cc cN szN I h0 n0 Z0 PI XI hc hs hI) hZ (hw _ (List.mem_of_getElem? (i := 25) rfl)) (hw _ (List.mem_of_getElem? (i := 24) rfl)) (by decide) (by decide)) (g := (mkF m 8 #[.val (.ref a0_)] [(.int sz_), (.ref ia)])) rfl (by rw [hml]; rfl) (argsL := [(.ref ia), (.int sz_)]) (rest := []) (lenOf own_pd1 rfl) rfl (by show 2 * 0 + _ ≤ _; exact Nat.le_of_eq rfl) (hb hby d3_8) (fun _ _ => ⟨rfl, e5, (by decide : 0 + 1 ≤ _), (by decide : 0 + 5 ≤ _)⟩)
  dsimp only [Pt.U, Pt.locs, Pt.cells, Pt.slots] at X7 l7 y7 z7 st7 hQ7
  subst l7 y7 z7
  obtain ⟨cb7, kb7, rfl, N7q, K7q, VC7⟩ := hQ7
  have N7 := Fr.app N0 N7q
  have KK7 : Keep h0 T7.heap [] := Keep.trans (Keep.refl h0 []) K7q all0
  have a8 : ∀ t, Steps p.tables e below (T7.setTop (mkF m 11 #[.val (.ref a0_)] [(.ref cb7)])) t → Steps p.tables e below (s₁.setTop (entryFrame m #[(.ref a0_)] 1)) t := fun t k => a6 t (st7 t k)
  obtain ⟨fs, hr, hrun, hended, hW, hsame⟩ := X7.leave (v := some (.ref cb7)) (fun h => by rw [Bd.returns] at h; cases h)
  refine ⟨_, _, a8 _ ?_, hrun, hended, _, _, rfl, ?_, ⟨_, rfl⟩, hW, hsame.mono (by decide) (by decide)⟩
  · show Steps p.tables e below (T7.setTop (mkF m 11 #[.val (.ref a0_)] [(.ref cb7)])) _
    exact retOut X7 hx Bd.returns rfl (Or.inr (Or.inr (Or.inr (Or.inr ⟨rfl, rfl, rfl⟩)))) (hb hby d3_11) hr
  · show QIn Z a0_ ia ki cc sz_ cN szN I h0 n0 _ T7.heap _
    exact ⟨_, _, rfl, N7, KK7, VC7⟩
theorem ef_rmB (m : MethodId) (x0 : Addr) (x1 : Int32) (x2 : Int32) (x3 : Int32) : entryFrame m #[(.ref x0), (.int x1), (.int x2), (.int x3)] 4 = mkF m 0 #[.val (.ref x0), .val (.int x1), .val (.int x2), .val (.int x3)] [] := by first | (simp [entryFrame, mkF, argsToLocals, Value.category]; done) | rfl
theorem d9_0 : decode method_5_code 0 = .ok (.iload_n 2, 1) := by decide +kernel
theorem d9_1 : decode method_5_code 1 = .ok (.iload_n 1, 1) := by decide +kernel
theorem d9_2 : decode method_5_code 2 = .ok (.if_icmp .ge 8, 3) := by decide +kernel
theorem d9_5 : decode method_5_code 5 = .ok (.iload_n 2, 1) := by decide +kernel
theorem d9_6 : decode method_5_code 6 = .ok (.iload_n 3, 1) := by decide +kernel
theorem d9_7 : decode method_5_code 7 = .ok (.if_icmp .ne 5, 3) := by decide +kernel
theorem d9_10 : decode method_5_code 10 = .ok (.iconst 0, 1) := by decide +kernel
theorem d9_11 : decode method_5_code 11 = .ok (.ireturn, 1) := by decide +kernel
theorem d9_12 : decode method_5_code 12 = .ok (.aload_n 0, 1) := by decide +kernel
theorem d9_13 : decode method_5_code 13 = .ok (.iload_n 2, 1) := by decide +kernel
theorem d9_14 : decode method_5_code 14 = .ok (.daload, 1) := by decide +kernel
theorem d9_15 : decode method_5_code 15 = .ok (.aload_n 0, 1) := by decide +kernel
theorem d9_16 : decode method_5_code 16 = .ok (.iload_n 3, 1) := by decide +kernel
theorem d9_17 : decode method_5_code 17 = .ok (.daload, 1) := by decide +kernel
theorem d9_18 : decode method_5_code 18 = .ok (.dcmp .g, 1) := by decide +kernel
theorem d9_19 : decode method_5_code 19 = .ok (.ifCond .ge 5, 3) := by decide +kernel
theorem d9_22 : decode method_5_code 22 = .ok (.iconst 1, 1) := by decide +kernel
theorem d9_23 : decode method_5_code 23 = .ok (.ireturn, 1) := by decide +kernel
theorem d9_24 : decode method_5_code 24 = .ok (.aload_n 0, 1) := by decide +kernel
theorem d9_25 : decode method_5_code 25 = .ok (.iload_n 2, 1) := by decide +kernel
theorem d9_26 : decode method_5_code 26 = .ok (.daload, 1) := by decide +kernel
theorem d9_27 : decode method_5_code 27 = .ok (.aload_n 0, 1) := by decide +kernel
theorem d9_28 : decode method_5_code 28 = .ok (.iload_n 3, 1) := by decide +kernel
theorem d9_29 : decode method_5_code 29 = .ok (.daload, 1) := by decide +kernel
theorem d9_30 : decode method_5_code 30 = .ok (.dcmp .l, 1) := by decide +kernel
theorem d9_31 : decode method_5_code 31 = .ok (.ifCond .ne 10, 3) := by decide +kernel
theorem d9_34 : decode method_5_code 34 = .ok (.iload_n 2, 1) := by decide +kernel
theorem d9_35 : decode method_5_code 35 = .ok (.iload_n 3, 1) := by decide +kernel
theorem d9_36 : decode method_5_code 36 = .ok (.if_icmp .ge 5, 3) := by decide +kernel
theorem d9_39 : decode method_5_code 39 = .ok (.iconst 1, 1) := by decide +kernel
theorem d9_40 : decode method_5_code 40 = .ok (.ireturn, 1) := by decide +kernel
theorem d9_41 : decode method_5_code 41 = .ok (.iconst 0, 1) := by decide +kernel
theorem d9_42 : decode method_5_code 42 = .ok (.ireturn, 1) := by decide +kernel
theorem own_pn_com_example_tillerfront_tillerfront_engine_NearestOfferPinLaw : plainName "com/example/tillerfront/tillerfront/engine/NearestOfferPinLaw" = true := by first | (simp [plainName, overriddenIn]; done) | decide +kernel
def QB (Z : State) (y_ : Addr) (p1 : Int32) (p2 : Int32) (p3 : Int32) (ky : ClassId) (E : List Nat) (nN jN iN : Nat) (fv : Nat → UInt64) (h0 : Heap) (n0 : Nat) (v : Option Value) (h : Heap) (L : List Loc) : Prop := ∃ r : Int32, v = some (.int r) ∧ r.toInt = (beforeP E nN jN iN : Int) ∧ Fr n0 L ∧ h = h0
set_option maxRecDepth 65536 in
set_option maxHeartbeats 40000000 in
theorem rmB (l : Launch) (Z : State) (a0 : Array Value) (hw : ∀ d ∈ tables_1, d.before a0 Z = true) (ws : List Jvm.Cond) (y_ : Addr) (p1 : Int32) (p2 : Int32) (p3 : Int32) (ky : ClassId) (E : List Nat) (nN jN iN : Nat) (fv : Nat → UInt64) (h0 : Heap) (n0 : Nat) (Z0 : n0 ≤ h0.size) (hf : FV fv) (PY : Arv Z h0 y_ ky .double (4 : Int32) (E.map (fd fv)) (.double (0 : UInt64))) (hE : ∀ k, E.getD k 0 < 4) (hn : p1.toInt = (nN : Int)) (hj : p2.toInt = (jN : Int)) (hi : p3.toInt = (iN : Int)) (hj4 : jN < 4) (hi4 : iN < 4) :
    MetFree l (⟨"com/example/tillerfront/tillerfront/engine/NearestOfferPinLaw", "before", "([DIII)I"⟩ : MethodName) (head1 (Jvm.Cond.code (⟨"com/example/tillerfront/tillerfront/engine/NearestOfferPinLaw", "before", "([DIII)I"⟩ : MethodName) method_5_code 4 (some .int) :: ws) ({ frames := 0, cells := 0, slots := 0, locals := 0 } : Room)) (fun a U => a = #[(.ref y_), (.int p1), (.int p2), (.int p3)] ∧ Z.Warmed39 U.vm ∧ U.heap = h0) (fun _ _ _ _ _ => True) (fun _ U o U' => ∃ v L, o = .returned v ∧ QB Z y_ p1 p2 p3 ky E nN jN iN fv h0 n0 v U'.heap L ∧ FrameEnd U o U' L ({ frames := 0, cells := 0, slots := 0, locals := 0 } : Room).cells ({ frames := 0, cells := 0, slots := 0, locals := 0 } : Room).slots) := by
  refine MetFree.of_bodySF (plainFor_of_name own_pn_com_example_tillerfront_tillerfront_engine_NearestOfferPinLaw) hisR ?_
  intro p e s m args below meth c s₁ Bd hml0 hP hK
  obtain ⟨rfl, hZ, hh⟩ := hP
  have hx := Bd.exec
  have hby := Bd.bytes
  have hml : c.maxLocals = 4 := hml0
  have hown : s.vm.findClass "com/example/tillerfront/tillerfront/engine/NearestOfferPinLaw" = some m.cls := findClass_of_methodNamed Bd.named
  have hnm := (name_of_methodNamed Bd.named Bd.method).1
  have X0 : Stand p l e ({ frames := 0, cells := 0, slots := 0, locals := 0 } : Room) s m #[(.ref y_), (.int p1), (.int p2), (.int p3)] below meth c s₁ [] 0 0 := Stand.of_body Bd
  have e0 : s₁.heap = h0 := by rw [← hh, Bd.state]; rfl
  have N0 := Fr.nil n0
  have pre0 : ∀ t, Steps p.tables e below (s₁.setTop (mkF m 0 #[.val (.ref y_), .val (.int p1), .val (.int p2), .val (.int p3)] [])) t → Steps p.tables e below (s₁.setTop (entryFrame m #[(.ref y_), (.int p1), (.int p2), (.int p3)] 4)) t := fun t k => castTop (ef_rmB m y_ p1 p2 p3) k
  have a1 : ∀ t, Steps p.tables e below (s₁.setTop (mkF m 2 #[.val (.ref y_), .val (.int p1), .val (.int p2), .val (.int p3)] [(.int p1), (.int p2)])) t → Steps p.tables e below (s₁.setTop (entryFrame m #[(.ref y_), (.int p1), (.int p2), (.int p3)] 4)) t := by
    intro t k
    refine pre0 t ?_
    show Steps p.tables e below (s₁.setTop (mkF m 0 #[.val (.ref y_), .val (.int p1), .val (.int p2), .val (.int p3)] [])) _
    refine XS.iloadN X0.here hx rfl (hb hby d9_0) rfl ?_
    refine XS.iloadN X0.here hx rfl (hb hby d9_1) rfl ?_
    exact k
  by_cases hc2_2 : p2 < p1
  ·
    have a3 : ∀ t, Steps p.tables e below (s₁.setTop (mkF m 7 #[.val (.ref y_), .val (.int p1), .val (.int p2), .val (.int p3)] [(.int p3), (.int p2)])) t → Steps p.tables e below (s₁.setTop (entryFrame m #[(.ref y_), (.int p1), (.int p2), (.int p3)] 4)) t := by
      intro t k
      refine a1 t ?_
      show Steps p.tables e below (s₁.setTop (mkF m 2 #[.val (.ref y_), .val (.int p1), .val (.int p2), .val (.int p3)] [(.int p1), (.int p2)])) _
      refine XS.icmpNo X0.here hx rfl (hb hby d9_2) rfl (tlt hc2_2).2.1 ?_
      refine XS.iloadN X0.here hx rfl (hb hby d9_5) rfl ?_
      refine XS.iloadN X0.here hx rfl (hb hby d9_6) rfl ?_
      exact k
    by_cases hc7_4 : p2 = p3
    ·
      have a5 : ∀ t, Steps p.tables e below (s₁.setTop (mkF m 11 #[.val (.ref y_), .val (.int p1), .val (.int p2), .val (.int p3)] [(.int (0 : Int32))])) t → Steps p.tables e below (s₁.setTop (entryFrame m #[(.ref y_), (.int p1), (.int p2), (.int p3)] 4)) t := by
        intro t k
        refine a3 t ?_
        show Steps p.tables e below (s₁.setTop (mkF m 7 #[.val (.ref y_), .val (.int p1), .val (.int p2), .val (.int p3)] [(.int p3), (.int p2)])) _
        refine XS.icmpNo X0.here hx rfl (hb hby d9_7) rfl (teq hc7_4).2 ?_
        refine XS.iconst X0.here hx rfl (hb hby d9_10) ?_
        exact k
      obtain ⟨fs, hr, hrun, hended, hW, hsame⟩ := X0.leave (v := some (.int (0 : Int32))) (fun h => by rw [Bd.returns] at h; cases h)
      refine ⟨_, _, a5 _ ?_, hrun, hended, _, _, rfl, ?_, ⟨_, rfl⟩, hW, hsame.mono (by decide) (by decide)⟩
      · show Steps p.tables e below (s₁.setTop (mkF m 11 #[.val (.ref y_), .val (.int p1), .val (.int p2), .val (.int p3)] [(.int (0 : Int32))])) _
        exact retOut X0 hx Bd.returns rfl (Or.inl ⟨rfl, Or.inl rfl, _, rfl⟩) (hb hby d9_11) hr
      · show QB Z y_ p1 p2 p3 ky E nN jN iN fv h0 n0 _ s₁.heap _
        rw [e0]
        refine ⟨_, rfl, ?_, N0, rfl⟩
        unfold beforeP
        rw [if_pos (Or.inr ((eq32 hj hi).mp hc7_4))]; decide
    ·
      have a6 : ∀ t, Steps p.tables e below (s₁.setTop (mkF m 14 #[.val (.ref y_), .val (.int p1), .val (.int p2), .val (.int p3)] [(.int p2), (.ref y_)])) t → Steps p.tables e below (s₁.setTop (entryFrame m #[(.ref y_), (.int p1), (.int p2), (.int p3)] 4)) t := by
        intro t k
        refine a3 t ?_
        show Steps p.tables e below (s₁.setTop (mkF m 7 #[.val (.ref y_), .val (.int p1), .val (.int p2), .val (.int p3)] [(.int p3), (.int p2)])) _
        refine XS.icmpYes X0.here hx rfl (pc0 := 7) (pc' := 12) rfl (hb hby d9_7) rfl (feq hc7_4).2 (by decide) (by decide) ?_
        refine XS.aloadN X0.here hx rfl (hb hby d9_12) rfl rfl ?_
        refine XS.iloadN X0.here hx rfl (hb hby d9_13) rfl ?_
        exact k
      obtain ⟨cl7, Ar7, qc7, Sz7, Nn7, Hs7, Gs7⟩ := id PY
      have hin7 : ¬ (p2 < 0 ∨ cl7.slots.size ≤ (p2).toNatClampNeg) := inb_of Sz7 (ixb hj (show (4 : Int32).toInt = ((4 : Nat) : Int) by decide) hj4)
      have hat7 := Hs7.at hin7 (v := (.double (fv (E.getD jN 0)))) (loopD hf E (ixn hj))
      have a8 : ∀ t, Steps p.tables e below (s₁.setTop (mkF m 17 #[.val (.ref y_), .val (.int p1), .val (.int p2), .val (.int p3)] [(.int p3), (.ref y_), (.double (fv (E.getD jN 0)))])) t → Steps p.tables e below (s₁.setTop (entryFrame m #[(.ref y_), (.int p1), (.int p2), (.int p3)] 4)) t := by
        intro t k
        refine a6 t ?_
        show Steps p.tables e below (s₁.setTop (mkF m 14 #[.val (.ref y_), .val (.int p1), .val (.int p2), .val (.int p3)] [(.int p2), (.ref y_)])) _
        refine X0.daload hx (j := p2) (v := (.double (fv (E.getD jN 0)))) (by rw [e0]; exact Ar7.1) (State.isArrayOf_alike hZ.alike Ar7.2.1) Ar7.2.2 hin7 hat7 (g := (mkF m 14 #[.val (.ref y_), .val (.int p1), .val (.int p2), .val (.int p3)] [(.int p2), (.ref y_)])) rfl rfl (hb hby d9_14) _ ?_
        refine XS.aloadN X0.here hx rfl (hb hby d9_15) rfl rfl ?_
        refine XS.iloadN X0.here hx rfl (hb hby d9_16) rfl ?_
        exact k
      obtain ⟨cl9, Ar9, qc9, Sz9, Nn9, Hs9, Gs9⟩ := id PY
      have hin9 : ¬ (p3 < 0 ∨ cl9.slots.size ≤ (p3).toNatClampNeg) := inb_of Sz9 (ixb hi (show (4 : Int32).toInt = ((4 : Nat) : Int) by decide) hi4)
      have hat9 := Hs9.at hin9 (v := (.double (fv (E.getD iN 0)))) (loopD hf E (ixn hi))
      have a10 : ∀ t, Steps p.tables e below (s₁.setTop (mkF m 19 #[.val (.ref y_), .val (.int p1), .val (.int p2), .val (.int p3)] [(.int (cmpValue (FP.dcmp (fv (E.getD jN 0)) (fv (E.getD iN 0))) .g))])) t → Steps p.tables e below (s₁.setTop (entryFrame m #[(.ref y_), (.int p1), (.int p2), (.int p3)] 4)) t := by
        intro t k
        refine a8 t ?_
        show Steps p.tables e below (s₁.setTop (mkF m 17 #[.val (.ref y_), .val (.int p1), .val (.int p2), .val (.int p3)] [(.int p3), (.ref y_), (.double (fv (E.getD jN 0)))])) _
        refine X0.daload hx (j := p3) (v := (.double (fv (E.getD iN 0)))) (by rw [e0]; exact Ar9.1) (State.isArrayOf_alike hZ.alike Ar9.2.1) Ar9.2.2 hin9 hat9 (g := (mkF m 17 #[.val (.ref y_), .val (.int p1), .val (.int p2), .val (.int p3)] [(.int p3), (.ref y_), (.double (fv (E.getD jN 0)))])) rfl rfl (hb hby d9_17) _ ?_
        refine XS.dcmpS X0.here hx rfl (hb hby d9_18) rfl rfl ?_
        exact k
      by_cases hc19_11 : (cmpValue (FP.dcmp (fv (E.getD jN 0)) (fv (E.getD iN 0))) .g) < (0 : Int32)
      ·
        have a12 : ∀ t, Steps p.tables e below (s₁.setTop (mkF m 23 #[.val (.ref y_), .val (.int p1), .val (.int p2), .val (.int p3)] [(.int (1 : Int32))])) t → Steps p.tables e below (s₁.setTop (entryFrame m #[(.ref y_), (.int p1), (.int p2), (.int p3)] 4)) t := by
          intro t k
          refine a10 t ?_
          show Steps p.tables e below (s₁.setTop (mkF m 19 #[.val (.ref y_), .val (.int p1), .val (.int p2), .val (.int p3)] [(.int (cmpValue (FP.dcmp (fv (E.getD jN 0)) (fv (E.getD iN 0))) .g))])) _
          refine XS.ifNo X0.here hx rfl (hb hby d9_19) rfl ((if0 _ _).trans (tlt hc19_11).2.1) ?_
          refine XS.iconst X0.here hx rfl (hb hby d9_22) ?_
          exact k
        obtain ⟨fs, hr, hrun, hended, hW, hsame⟩ := X0.leave (v := some (.int (1 : Int32))) (fun h => by rw [Bd.returns] at h; cases h)
        refine ⟨_, _, a12 _ ?_, hrun, hended, _, _, rfl, ?_, ⟨_, rfl⟩, hW, hsame.mono (by decide) (by decide)⟩
        · show Steps p.tables e below (s₁.setTop (mkF m 23 #[.val (.ref y_), .val (.int p1), .val (.int p2), .val (.int p3)] [(.int (1 : Int32))])) _
          exact retOut X0 hx Bd.returns rfl (Or.inl ⟨rfl, Or.inl rfl, _, rfl⟩) (hb hby d9_23) hr
        · show QB Z y_ p1 p2 p3 ky E nN jN iN fv h0 n0 _ s₁.heap _
          rw [e0]
          refine ⟨_, rfl, ?_, N0, rfl⟩
          unfold beforeP
          rw [if_neg (show ¬ (nN ≤ jN ∨ jN = iN) from fun q => q.elim (fun q => Nat.not_le.mpr ((lt32 hj hn).mp hc2_2) q) (fun q => hc7_4 ((eq32 hj hi).mpr q)))]
          rw [if_pos ((ltG hf (hE jN) (hE iN)).mp hc19_11)]; decide
      ·
        have a13 : ∀ t, Steps p.tables e below (s₁.setTop (mkF m 26 #[.val (.ref y_), .val (.int p1), .val (.int p2), .val (.int p3)] [(.int p2), (.ref y_)])) t → Steps p.tables e below (s₁.setTop (entryFrame m #[(.ref y_), (.int p1), (.int p2), (.int p3)] 4)) t := by
          intro t k
          refine a10 t ?_
          show Steps p.tables e below (s₁.setTop (mkF m 19 #[.val (.ref y_), .val (.int p1), .val (.int p2), .val (.int p3)] [(.int (cmpValue (FP.dcmp (fv (E.getD jN 0)) (fv (E.getD iN 0))) .g))])) _
          refine XS.ifYes X0.here hx rfl (pc0 := 19) (pc' := 24) rfl (hb hby d9_19) rfl ((if0 _ _).trans (flt hc19_11).2.1) (by decide) (by decide) ?_
          refine XS.aloadN X0.here hx rfl (hb hby d9_24) rfl rfl ?_
          refine XS.iloadN X0.here hx rfl (hb hby d9_25) rfl ?_
          exact k
        obtain ⟨cl14, Ar14, qc14, Sz14, Nn14, Hs14, Gs14⟩ := id PY
        have hin14 : ¬ (p2 < 0 ∨ cl14.slots.size ≤ (p2).toNatClampNeg) := inb_of Sz14 (ixb hj (show (4 : Int32).toInt = ((4 : Nat) : Int) by decide) hj4)
        have hat14 := Hs14.at hin14 (v := (.double (fv (E.getD jN 0)))) (loopD hf E (ixn hj))
        have a15 : ∀ t, Steps p.tables e below (s₁.setTop (mkF m 29 #[.val (.ref y_), .val (.int p1), .val (.int p2), .val (.int p3)] [(.int p3), (.ref y_), (.double (fv (E.getD jN 0)))])) t → Steps p.tables e below (s₁.setTop (entryFrame m #[(.ref y_), (.int p1), (.int p2), (.int p3)] 4)) t := by
          intro t k
          refine a13 t ?_
          show Steps p.tables e below (s₁.setTop (mkF m 26 #[.val (.ref y_), .val (.int p1), .val (.int p2), .val (.int p3)] [(.int p2), (.ref y_)])) _
          refine X0.daload hx (j := p2) (v := (.double (fv (E.getD jN 0)))) (by rw [e0]; exact Ar14.1) (State.isArrayOf_alike hZ.alike Ar14.2.1) Ar14.2.2 hin14 hat14 (g := (mkF m 26 #[.val (.ref y_), .val (.int p1), .val (.int p2), .val (.int p3)] [(.int p2), (.ref y_)])) rfl rfl (hb hby d9_26) _ ?_
          refine XS.aloadN X0.here hx rfl (hb hby d9_27) rfl rfl ?_
          refine XS.iloadN X0.here hx rfl (hb hby d9_28) rfl ?_
          exact k
        obtain ⟨cl16, Ar16, qc16, Sz16, Nn16, Hs16, Gs16⟩ := id PY
        have hin16 : ¬ (p3 < 0 ∨ cl16.slots.size ≤ (p3).toNatClampNeg) := inb_of Sz16 (ixb hi (show (4 : Int32).toInt = ((4 : Nat) : Int) by decide) hi4)
        have hat16 := Hs16.at hin16 (v := (.double (fv (E.getD iN 0)))) (loopD hf E (ixn hi))
        have a17 : ∀ t, Steps p.tables e below (s₁.setTop (mkF m 31 #[.val (.ref y_), .val (.int p1), .val (.int p2), .val (.int p3)] [(.int (cmpValue (FP.dcmp (fv (E.getD jN 0)) (fv (E.getD iN 0))) .l))])) t → Steps p.tables e below (s₁.setTop (entryFrame m #[(.ref y_), (.int p1), (.int p2), (.int p3)] 4)) t := by
          intro t k
          refine a15 t ?_
          show Steps p.tables e below (s₁.setTop (mkF m 29 #[.val (.ref y_), .val (.int p1), .val (.int p2), .val (.int p3)] [(.int p3), (.ref y_), (.double (fv (E.getD jN 0)))])) _
          refine X0.daload hx (j := p3) (v := (.double (fv (E.getD iN 0)))) (by rw [e0]; exact Ar16.1) (State.isArrayOf_alike hZ.alike Ar16.2.1) Ar16.2.2 hin16 hat16 (g := (mkF m 29 #[.val (.ref y_), .val (.int p1), .val (.int p2), .val (.int p3)] [(.int p3), (.ref y_), (.double (fv (E.getD jN 0)))])) rfl rfl (hb hby d9_29) _ ?_
          refine XS.dcmpS X0.here hx rfl (hb hby d9_30) rfl rfl ?_
          exact k
        by_cases hc31_18 : (cmpValue (FP.dcmp (fv (E.getD jN 0)) (fv (E.getD iN 0))) .l) = (0 : Int32)
        ·
          have a19 : ∀ t, Steps p.tables e below (s₁.setTop (mkF m 36 #[.val (.ref y_), .val (.int p1), .val (.int p2), .val (.int p3)] [(.int p3), (.int p2)])) t → Steps p.tables e below (s₁.setTop (entryFrame m #[(.ref y_), (.int p1), (.int p2), (.int p3)] 4)) t := by
            intro t k
            refine a17 t ?_
            show Steps p.tables e below (s₁.setTop (mkF m 31 #[.val (.ref y_), .val (.int p1), .val (.int p2), .val (.int p3)] [(.int (cmpValue (FP.dcmp (fv (E.getD jN 0)) (fv (E.getD iN 0))) .l))])) _
            refine XS.ifNo X0.here hx rfl (hb hby d9_31) rfl ((if0 _ _).trans (teq hc31_18).2) ?_
            refine XS.iloadN X0.here hx rfl (hb hby d9_34) rfl ?_
            refine XS.iloadN X0.here hx rfl (hb hby d9_35) rfl ?_
            exact k
          by_cases hc36_20 : p2 < p3
          ·
            have a21 : ∀ t, Steps p.tables e below (s₁.setTop (mkF m 40 #[.val (.ref y_), .val (.int p1), .val (.int p2), .val (.int p3)] [(.int (1 : Int32))])) t → Steps p.tables e below (s₁.setTop (entryFrame m #[(.ref y_), (.int p1), (.int p2), (.int p3)] 4)) t := by
              intro t k
              refine a19 t ?_
              show Steps p.tables e below (s₁.setTop (mkF m 36 #[.val (.ref y_), .val (.int p1), .val (.int p2), .val (.int p3)] [(.int p3), (.int p2)])) _
              refine XS.icmpNo X0.here hx rfl (hb hby d9_36) rfl (tlt hc36_20).2.1 ?_
              refine XS.iconst X0.here hx rfl (hb hby d9_39) ?_
              exact k
            obtain ⟨fs, hr, hrun, hended, hW, hsame⟩ := X0.leave (v := some (.int (1 : Int32))) (fun h => by rw [Bd.returns] at h; cases h)
            refine ⟨_, _, a21 _ ?_, hrun, hended, _, _, rfl, ?_, ⟨_, rfl⟩, hW, hsame.mono (by decide) (by decide)⟩
            · show Steps p.tables e below (s₁.setTop (mkF m 40 #[.val (.ref y_), .val (.int p1), .val (.int p2), .val (.int p3)] [(.int (1 : Int32))])) _
              exact retOut X0 hx Bd.returns rfl (Or.inl ⟨rfl, Or.inl rfl, _, rfl⟩) (hb hby d9_40) hr
            · show QB Z y_ p1 p2 p3 ky E nN jN iN fv h0 n0 _ s₁.heap _
              rw [e0]
              refine ⟨_, rfl, ?_, N0, rfl⟩
              unfold beforeP
              rw [if_neg (show ¬ (nN ≤ jN ∨ jN = iN) from fun q => q.elim (fun q => Nat.not_le.mpr ((lt32 hj hn).mp hc2_2) q) (fun q => hc7_4 ((eq32 hj hi).mpr q)))]
              rw [if_neg (fun q => hc19_11 ((ltG hf (hE jN) (hE iN)).mpr q))]
              rw [if_pos ⟨(eqL hf (hE jN) (hE iN)).mp hc31_18, (lt32 hj hi).mp hc36_20⟩]; decide
          ·
            have a22 : ∀ t, Steps p.tables e below (s₁.setTop (mkF m 42 #[.val (.ref y_), .val (.int p1), .val (.int p2), .val (.int p3)] [(.int (0 : Int32))])) t → Steps p.tables e below (s₁.setTop (entryFrame m #[(.ref y_), (.int p1), (.int p2), (.int p3)] 4)) t := by
              intro t k
              refine a19 t ?_
              show Steps p.tables e below (s₁.setTop (mkF m 36 #[.val (.ref y_), .val (.int p1), .val (.int p2), .val (.int p3)] [(.int p3), (.int p2)])) _
              refine XS.icmpYes X0.here hx rfl (pc0 := 36) (pc' := 41) rfl (hb hby d9_36) rfl (flt hc36_20).2.1 (by decide) (by decide) ?_
              refine XS.iconst X0.here hx rfl (hb hby d9_41) ?_
              exact k
            obtain ⟨fs, hr, hrun, hended, hW, hsame⟩ := X0.leave (v := some (.int (0 : Int32))) (fun h => by rw [Bd.returns] at h; cases h)
            refine ⟨_, _, a22 _ ?_, hrun, hended, _, _, rfl, ?_, ⟨_, rfl⟩, hW, hsame.mono (by decide) (by decide)⟩
            · show Steps p.tables e below (s₁.setTop (mkF m 42 #[.val (.ref y_), .val (.int p1), .val (.int p2), .val (.int p3)] [(.int (0 : Int32))])) _
              exact retOut X0 hx Bd.returns rfl (Or.inl ⟨rfl, Or.inl rfl, _, rfl⟩) (hb hby d9_42) hr
            · show QB Z y_ p1 p2 p3 ky E nN jN iN fv h0 n0 _ s₁.heap _
              rw [e0]
              refine ⟨_, rfl, ?_, N0, rfl⟩
              unfold beforeP
              rw [if_neg (show ¬ (nN ≤ jN ∨ jN = iN) from fun q => q.elim (fun q => Nat.not_le.mpr ((lt32 hj hn).mp hc2_2) q) (fun q => hc7_4 ((eq32 hj hi).mpr q)))]
              rw [if_neg (fun q => hc19_11 ((ltG hf (hE jN) (hE iN)).mpr q))]
              rw [if_neg (fun q => hc36_20 ((lt32 hj hi).mpr q.2))]; decide
        ·
          have a23 : ∀ t, Steps p.tables e below (s₁.setTop (mkF m 42 #[.val (.ref y_), .val (.int p1), .val (.int p2), .val (.int p3)] [(.int (0 : Int32))])) t → Steps p.tables e below (s₁.setTop (entryFrame m #[(.ref y_), (.int p1), (.int p2), (.int p3)] 4)) t := by
            intro t k
            refine a17 t ?_
            show Steps p.tables e below (s₁.setTop (mkF m 31 #[.val (.ref y_), .val (.int p1), .val (.int p2), .val (.int p3)] [(.int (cmpValue (FP.dcmp (fv (E.getD jN 0)) (fv (E.getD iN 0))) .l))])) _
            refine XS.ifYes X0.here hx rfl (pc0 := 31) (pc' := 41) rfl (hb hby d9_31) rfl ((if0 _ _).trans (feq hc31_18).2) (by decide) (by decide) ?_
            refine XS.iconst X0.here hx rfl (hb hby d9_41) ?_
            exact k
          obtain ⟨fs, hr, hrun, hended, hW, hsame⟩ := X0.leave (v := some (.int (0 : Int32))) (fun h => by rw [Bd.returns] at h; cases h)
          refine ⟨_, _, a23 _ ?_, hrun, hended, _, _, rfl, ?_, ⟨_, rfl⟩, hW, hsame.mono (by decide) (by decide)⟩
          · show Steps p.tables e below (s₁.setTop (mkF m 42 #[.val (.ref y_), .val (.int p1), .val (.int p2), .val (.int p3)] [(.int (0 : Int32))])) _
            exact retOut X0 hx Bd.returns rfl (Or.inl ⟨rfl, Or.inl rfl, _, rfl⟩) (hb hby d9_42) hr
          · show QB Z y_ p1 p2 p3 ky E nN jN iN fv h0 n0 _ s₁.heap _
            rw [e0]
            refine ⟨_, rfl, ?_, N0, rfl⟩
            unfold beforeP
            rw [if_neg (show ¬ (nN ≤ jN ∨ jN = iN) from fun q => q.elim (fun q => Nat.not_le.mpr ((lt32 hj hn).mp hc2_2) q) (fun q => hc7_4 ((eq32 hj hi).mpr q)))]
            rw [if_neg (fun q => hc19_11 ((ltG hf (hE jN) (hE iN)).mpr q))]
            rw [if_neg (fun q => hc31_18 ((eqL hf (hE jN) (hE iN)).mpr q.1))]; decide
  ·
    have a24 : ∀ t, Steps p.tables e below (s₁.setTop (mkF m 11 #[.val (.ref y_), .val (.int p1), .val (.int p2), .val (.int p3)] [(.int (0 : Int32))])) t → Steps p.tables e below (s₁.setTop (entryFrame m #[(.ref y_), (.int p1), (.int p2), (.int p3)] 4)) t := by
      intro t k
      refine a1 t ?_
      show Steps p.tables e below (s₁.setTop (mkF m 2 #[.val (.ref y_), .val (.int p1), .val (.int p2), .val (.int p3)] [(.int p1), (.int p2)])) _
      refine XS.icmpYes X0.here hx rfl (pc0 := 2) (pc' := 10) rfl (hb hby d9_2) rfl (flt hc2_2).2.1 (by decide) (by decide) ?_
      refine XS.iconst X0.here hx rfl (hb hby d9_10) ?_
      exact k
    obtain ⟨fs, hr, hrun, hended, hW, hsame⟩ := X0.leave (v := some (.int (0 : Int32))) (fun h => by rw [Bd.returns] at h; cases h)
    refine ⟨_, _, a24 _ ?_, hrun, hended, _, _, rfl, ?_, ⟨_, rfl⟩, hW, hsame.mono (by decide) (by decide)⟩
    · show Steps p.tables e below (s₁.setTop (mkF m 11 #[.val (.ref y_), .val (.int p1), .val (.int p2), .val (.int p3)] [(.int (0 : Int32))])) _
      exact retOut X0 hx Bd.returns rfl (Or.inl ⟨rfl, Or.inl rfl, _, rfl⟩) (hb hby d9_11) hr
    · show QB Z y_ p1 p2 p3 ky E nN jN iN fv h0 n0 _ s₁.heap _
      rw [e0]
      refine ⟨_, rfl, ?_, N0, rfl⟩
      unfold beforeP
      rw [if_pos (Or.inl (Nat.le_of_not_lt fun q => hc2_2 ((lt32 hj hn).mpr q)))]; decide
theorem ef_rmRk (m : MethodId) (x0 : Addr) (x1 : Int32) (x2 : Int32) : entryFrame m #[(.ref x0), (.int x1), (.int x2)] 3 = mkF m 0 #[.val (.ref x0), .val (.int x1), .val (.int x2)] [] := by first | (simp [entryFrame, mkF, argsToLocals, Value.category]; done) | rfl
theorem d8_0 : decode method_4_code 0 = .ok (.aload_n 0, 1) := by decide +kernel
theorem d8_1 : decode method_4_code 1 = .ok (.iload_n 1, 1) := by decide +kernel
theorem d8_2 : decode method_4_code 2 = .ok (.iconst 0, 1) := by decide +kernel
theorem d8_3 : decode method_4_code 3 = .ok (.iload_n 2, 1) := by decide +kernel
theorem d8_4 : decode method_4_code 4 = .ok (.invokestatic 36, 3) := by decide +kernel
theorem own_pd2 : parseMethodDescriptor "([DIII)I" = some ⟨[(.array .double), .int, .int, .int], some .int⟩ := by decide +kernel
theorem d8_7 : decode method_4_code 7 = .ok (.aload_n 0, 1) := by decide +kernel
theorem d8_8 : decode method_4_code 8 = .ok (.iload_n 1, 1) := by decide +kernel
theorem d8_9 : decode method_4_code 9 = .ok (.iconst 1, 1) := by decide +kernel
theorem d8_10 : decode method_4_code 10 = .ok (.iload_n 2, 1) := by decide +kernel
theorem d8_11 : decode method_4_code 11 = .ok (.invokestatic 36, 3) := by decide +kernel
theorem d8_14 : decode method_4_code 14 = .ok (.iadd, 1) := by decide +kernel
theorem d8_15 : decode method_4_code 15 = .ok (.aload_n 0, 1) := by decide +kernel
theorem d8_16 : decode method_4_code 16 = .ok (.iload_n 1, 1) := by decide +kernel
theorem d8_17 : decode method_4_code 17 = .ok (.iconst 2, 1) := by decide +kernel
theorem d8_18 : decode method_4_code 18 = .ok (.iload_n 2, 1) := by decide +kernel
theorem d8_19 : decode method_4_code 19 = .ok (.invokestatic 36, 3) := by decide +kernel
theorem d8_22 : decode method_4_code 22 = .ok (.iadd, 1) := by decide +kernel
theorem d8_23 : decode method_4_code 23 = .ok (.aload_n 0, 1) := by decide +kernel
theorem d8_24 : decode method_4_code 24 = .ok (.iload_n 1, 1) := by decide +kernel
theorem d8_25 : decode method_4_code 25 = .ok (.iconst 3, 1) := by decide +kernel
theorem d8_26 : decode method_4_code 26 = .ok (.iload_n 2, 1) := by decide +kernel
theorem d8_27 : decode method_4_code 27 = .ok (.invokestatic 36, 3) := by decide +kernel
theorem d8_30 : decode method_4_code 30 = .ok (.iadd, 1) := by decide +kernel
theorem d8_31 : decode method_4_code 31 = .ok (.ireturn, 1) := by decide +kernel
def QRk (Z : State) (y_ : Addr) (p1 : Int32) (p2 : Int32) (ky : ClassId) (E : List Nat) (nN iN : Nat) (fv : Nat → UInt64) (h0 : Heap) (n0 : Nat) (v : Option Value) (h : Heap) (L : List Loc) : Prop := ∃ r : Int32, v = some (.int r) ∧ r.toInt = (rankP E nN iN : Int) ∧ Fr n0 L ∧ h = h0
set_option maxRecDepth 65536 in
set_option maxHeartbeats 40000000 in
theorem rmRk (l : Launch) (Z : State) (a0 : Array Value) (hw : ∀ d ∈ tables_1, d.before a0 Z = true) (ws : List Jvm.Cond) (y_ : Addr) (p1 : Int32) (p2 : Int32) (ky : ClassId) (E : List Nat) (nN iN : Nat) (fv : Nat → UInt64) (h0 : Heap) (n0 : Nat) (Z0 : n0 ≤ h0.size) (hf : FV fv) (PY : Arv Z h0 y_ ky .double (4 : Int32) (E.map (fd fv)) (.double (0 : UInt64))) (hE : ∀ k, E.getD k 0 < 4) (hn : p1.toInt = (nN : Int)) (hi : p2.toInt = (iN : Int)) (hi4 : iN < 4) :
    MetFree l (⟨"com/example/tillerfront/tillerfront/engine/NearestOfferPinLaw", "rank", "([DII)I"⟩ : MethodName) (head1 (Jvm.Cond.code (⟨"com/example/tillerfront/tillerfront/engine/NearestOfferPinLaw", "rank", "([DII)I"⟩ : MethodName) method_4_code 3 (some .int) :: ws) ({ frames := 1, cells := 0, slots := 0, locals := 20 } : Room)) (fun a U => a = #[(.ref y_), (.int p1), (.int p2)] ∧ Z.Warmed39 U.vm ∧ U.heap = h0) (fun _ _ _ _ _ => True) (fun _ U o U' => ∃ v L, o = .returned v ∧ QRk Z y_ p1 p2 ky E nN iN fv h0 n0 v U'.heap L ∧ FrameEnd U o U' L ({ frames := 1, cells := 0, slots := 0, locals := 20 } : Room).cells ({ frames := 1, cells := 0, slots := 0, locals := 20 } : Room).slots) := by
  refine MetFree.of_bodySF (plainFor_of_name own_pn_com_example_tillerfront_tillerfront_engine_NearestOfferPinLaw) hisR ?_
  intro p e s m args below meth c s₁ Bd hml0 hP hK
  obtain ⟨rfl, hZ, hh⟩ := hP
  have hx := Bd.exec
  have hby := Bd.bytes
  have hml : c.maxLocals = 3 := hml0
  have hown : s.vm.findClass "com/example/tillerfront/tillerfront/engine/NearestOfferPinLaw" = some m.cls := findClass_of_methodNamed Bd.named
  have hnm := (name_of_methodNamed Bd.named Bd.method).1
  have X0 : Stand p l e ({ frames := 1, cells := 0, slots := 0, locals := 20 } : Room) s m #[(.ref y_), (.int p1), (.int p2)] below meth c s₁ [] 0 0 := Stand.of_body Bd
  have e0 : s₁.heap = h0 := by rw [← hh, Bd.state]; rfl
  have N0 := Fr.nil n0
  have pre0 : ∀ t, Steps p.tables e below (s₁.setTop (mkF m 0 #[.val (.ref y_), .val (.int p1), .val (.int p2)] [])) t → Steps p.tables e below (s₁.setTop (entryFrame m #[(.ref y_), (.int p1), (.int p2)] 3)) t := fun t k => castTop (ef_rmRk m y_ p1 p2) k
  have a1 : ∀ t, Steps p.tables e below (s₁.setTop (mkF m 4 #[.val (.ref y_), .val (.int p1), .val (.int p2)] [(.int p2), (.int (0 : Int32)), (.int p1), (.ref y_)])) t → Steps p.tables e below (s₁.setTop (entryFrame m #[(.ref y_), (.int p1), (.int p2)] 3)) t := by
    intro t k
    refine pre0 t ?_
    show Steps p.tables e below (s₁.setTop (mkF m 0 #[.val (.ref y_), .val (.int p1), .val (.int p2)] [])) _
    refine XS.aloadN X0.here hx rfl (hb hby d8_0) rfl rfl ?_
    refine XS.iloadN X0.here hx rfl (hb hby d8_1) rfl ?_
    refine XS.iconst X0.here hx rfl (hb hby d8_2) ?_
    refine XS.iloadN X0.here hx rfl (hb hby d8_3) rfl ?_
    exact k
  obtain ⟨_, _, ⟨T2, L2, k2, n2⟩, -, X2, ⟨Lc2, hQ2, l2, y2, z2⟩, st2⟩ := Jvm.LawKit.callS X0 hx (y := (⟨"com/example/tillerfront/tillerfront/engine/NearestOfferPinLaw", "before", "([DIII)I"⟩ : MethodName)) hown (mvT hZ (hw _ (List.mem_of_getElem? (i := 56) rfl))) (mvT hZ (hw _ (List.mem_of_getElem? (i := 57) rfl))) (mvT hZ (hw _ (List.mem_of_getElem? (i := 37) rfl))) (mvT hZ (hw _ (List.mem_of_getElem? (i := 58) rfl))) (by decide) (backOf (W := 0) (rmB l Z a0 hw [] y_ p1 (0 : Int32) p2 ky E nN 0 iN fv h0 n0 Z0 hf PY hE hn (by decide) hi (by decide) hi4) hZ (hw _ (List.mem_of_getElem? (i := 58) rfl)) (hw _ (List.mem_of_getElem? (i := 37) rfl)) (by decide) (by decide)) (g := (mkF m 4 #[.val (.ref y_), .val (.int p1), .val (.int p2)] [(.int p2), (.int (0 : Int32)), (.int p1), (.ref y_)])) rfl (by rw [hml]; rfl) (argsL := [(.ref y_), (.int p1), (.int (0 : Int32)), (.int p2)]) (rest := []) (lenOf own_pd2 rfl) rfl (by show 2 * 0 + _ ≤ _; exact Nat.le_of_eq rfl) (hb hby d8_4) (fun _ _ => ⟨rfl, e0, (by decide : 0 + 0 ≤ _), (by decide : 0 + 0 ≤ _)⟩)
  dsimp only [Pt.U, Pt.locs, Pt.cells, Pt.slots] at X2 l2 y2 z2 st2 hQ2
  subst l2 y2 z2
  obtain ⟨r0, rfl, hr0, N2q, e2q⟩ := hQ2
  have N2 := Fr.app N0 N2q
  have a3 : ∀ t, Steps p.tables e below (T2.setTop (mkF m 7 #[.val (.ref y_), .val (.int p1), .val (.int p2)] [(.int r0)])) t → Steps p.tables e below (s₁.setTop (entryFrame m #[(.ref y_), (.int p1), (.int p2)] 3)) t := fun t k => a1 t (st2 t k)
  have a4 : ∀ t, Steps p.tables e below (T2.setTop (mkF m 11 #[.val (.ref y_), .val (.int p1), .val (.int p2)] [(.int p2), (.int (1 : Int32)), (.int p1), (.ref y_), (.int r0)])) t → Steps p.tables e below (s₁.setTop (entryFrame m #[(.ref y_), (.int p1), (.int p2)] 3)) t := by
    intro t k
    refine a3 t ?_
    show Steps p.tables e below (T2.setTop (mkF m 7 #[.val (.ref y_), .val (.int p1), .val (.int p2)] [(.int r0)])) _
    refine XS.aloadN X2.here hx rfl (hb hby d8_7) rfl rfl ?_
    refine XS.iloadN X2.here hx rfl (hb hby d8_8) rfl ?_
    refine XS.iconst X2.here hx rfl (hb hby d8_9) ?_
    refine XS.iloadN X2.here hx rfl (hb hby d8_10) rfl ?_
    exact k
  obtain ⟨_, _, ⟨T5, L5, k5, n5⟩, -, X5, ⟨Lc5, hQ5, l5, y5, z5⟩, st5⟩ := Jvm.LawKit.callS X2 hx (y := (⟨"com/example/tillerfront/tillerfront/engine/NearestOfferPinLaw", "before", "([DIII)I"⟩ : MethodName)) hown (mvT hZ (hw _ (List.mem_of_getElem? (i := 56) rfl))) (mvT hZ (hw _ (List.mem_of_getElem? (i := 57) rfl))) (mvT hZ (hw _ (List.mem_of_getElem? (i := 37) rfl))) (mvT hZ (hw _ (List.mem_of_getElem? (i := 58) rfl))) (by decide) (backOf (W := 1) (rmB l Z a0 hw [] y_ p1 (1 : Int32) p2 ky E nN 1 iN fv h0 n0 Z0 hf PY hE hn (by decide) hi (by decide) hi4) hZ (hw _ (List.mem_of_getElem? (i := 58) rfl)) (hw _ (List.mem_of_getElem? (i := 37) rfl)) (by decide) (by decide)) (g := (mkF m 11 #[.val (.ref y_), .val (.int p1), .val (.int p2)] [(.int p2), (.int (1 : Int32)), (.int p1), (.ref y_), (.int r0)])) rfl (by rw [hml]; rfl) (argsL := [(.ref y_), (.int p1), (.int (1 : Int32)), (.int p2)]) (rest := [(.int r0)]) (lenOf own_pd2 rfl) rfl (by show 2 * 0 + _ ≤ _; exact Nat.le_of_eq rfl) (hb hby d8_11) (fun _ _ => ⟨rfl, e2q, (by decide : 0 + 0 ≤ _), (by decide : 0 + 0 ≤ _)⟩)
  dsimp only [Pt.U, Pt.locs, Pt.cells, Pt.slots] at X5 l5 y5 z5 st5 hQ5
  subst l5 y5 z5
  obtain ⟨r1, rfl, hr1, N5q, e5q⟩ := hQ5
  have N5 := Fr.app N2 N5q
  have a6 : ∀ t, Steps p.tables e below (T5.setTop (mkF m 14 #[.val (.ref y_), .val (.int p1), .val (.int p2)] [(.int r1), (.int r0)])) t → Steps p.tables e below (s₁.setTop (entryFrame m #[(.ref y_), (.int p1), (.int p2)] 3)) t := fun t k => a4 t (st5 t k)
  have a7 : ∀ t, Steps p.tables e below (T5.setTop (mkF m 19 #[.val (.ref y_), .val (.int p1), .val (.int p2)] [(.int p2), (.int (2 : Int32)), (.int p1), (.ref y_), (.int (r0 + r1))])) t → Steps p.tables e below (s₁.setTop (entryFrame m #[(.ref y_), (.int p1), (.int p2)] 3)) t := by
    intro t k
    refine a6 t ?_
    show Steps p.tables e below (T5.setTop (mkF m 14 #[.val (.ref y_), .val (.int p1), .val (.int p2)] [(.int r1), (.int r0)])) _
    refine XS.iadd X5.here hx rfl (hb hby d8_14) rfl ?_
    refine XS.aloadN X5.here hx rfl (hb hby d8_15) rfl rfl ?_
    refine XS.iloadN X5.here hx rfl (hb hby d8_16) rfl ?_
    refine XS.iconst X5.here hx rfl (hb hby d8_17) ?_
    refine XS.iloadN X5.here hx rfl (hb hby d8_18) rfl ?_
    exact k
  obtain ⟨_, _, ⟨T8, L8, k8, n8⟩, -, X8, ⟨Lc8, hQ8, l8, y8, z8⟩, st8⟩ := Jvm.LawKit.callS X5 hx (y := (⟨"com/example/tillerfront/tillerfront/engine/NearestOfferPinLaw", "before", "([DIII)I"⟩ : MethodName)) hown (mvT hZ (hw _ (List.mem_of_getElem? (i := 56) rfl))) (mvT hZ (hw _ (List.mem_of_getElem? (i := 57) rfl))) (mvT hZ (hw _ (List.mem_of_getElem? (i := 37) rfl))) (mvT hZ (hw _ (List.mem_of_getElem? (i := 58) rfl))) (by decide) (backOf (W := 1) (rmB l Z a0 hw [] y_ p1 (2 : Int32) p2 ky E nN 2 iN fv h0 n0 Z0 hf PY hE hn (by decide) hi (by decide) hi4) hZ (hw _ (List.mem_of_getElem? (i := 58) rfl)) (hw _ (List.mem_of_getElem? (i := 37) rfl)) (by decide) (by decide)) (g := (mkF m 19 #[.val (.ref y_), .val (.int p1), .val (.int p2)] [(.int p2), (.int (2 : Int32)), (.int p1), (.ref y_), (.int (r0 + r1))])) rfl (by rw [hml]; rfl) (argsL := [(.ref y_), (.int p1), (.int (2 : Int32)), (.int p2)]) (rest := [(.int (r0 + r1))]) (lenOf own_pd2 rfl) rfl (by show 2 * 0 + _ ≤ _; exact Nat.le_of_eq rfl) (hb hby d8_19) (fun _ _ => ⟨rfl, e5q, (by decide : 0 + 0 ≤ _), (by decide : 0 + 0 ≤ _)⟩)
  dsimp only [Pt.U, Pt.locs, Pt.cells, Pt.slots] at X8 l8 y8 z8 st8 hQ8
  subst l8 y8 z8
  obtain ⟨r2, rfl, hr2, N8q, e8q⟩ := hQ8
  have N8 := Fr.app N5 N8q
  have a9 : ∀ t, Steps p.tables e below (T8.setTop (mkF m 22 #[.val (.ref y_), .val (.int p1), .val (.int p2)] [(.int r2), (.int (r0 + r1))])) t → Steps p.tables e below (s₁.setTop (entryFrame m #[(.ref y_), (.int p1), (.int p2)] 3)) t := fun t k => a7 t (st8 t k)
  have a10 : ∀ t, Steps p.tables e below (T8.setTop (mkF m 27 #[.val (.ref y_), .val (.int p1), .val (.int p2)] [(.int p2), (.int (3 : Int32)), (.int p1), (.ref y_), (.int ((r0 + r1) + r2))])) t → Steps p.tables e below (s₁.setTop (entryFrame m #[(.ref y_), (.int p1), (.int p2)] 3)) t := by
    intro t k
    refine a9 t ?_
    show Steps p.tables e below (T8.setTop (mkF m 22 #[.val (.ref y_), .val (.int p1), .val (.int p2)] [(.int r2), (.int (r0 + r1))])) _
    refine XS.iadd X8.here hx rfl (hb hby d8_22) rfl ?_
    refine XS.aloadN X8.here hx rfl (hb hby d8_23) rfl rfl ?_
    refine XS.iloadN X8.here hx rfl (hb hby d8_24) rfl ?_
    refine XS.iconst X8.here hx rfl (hb hby d8_25) ?_
    refine XS.iloadN X8.here hx rfl (hb hby d8_26) rfl ?_
    exact k
  obtain ⟨_, _, ⟨T11, L11, k11, n11⟩, -, X11, ⟨Lc11, hQ11, l11, y11, z11⟩, st11⟩ := Jvm.LawKit.callS X8 hx (y := (⟨"com/example/tillerfront/tillerfront/engine/NearestOfferPinLaw", "before", "([DIII)I"⟩ : MethodName)) hown (mvT hZ (hw _ (List.mem_of_getElem? (i := 56) rfl))) (mvT hZ (hw _ (List.mem_of_getElem? (i := 57) rfl))) (mvT hZ (hw _ (List.mem_of_getElem? (i := 37) rfl))) (mvT hZ (hw _ (List.mem_of_getElem? (i := 58) rfl))) (by decide) (backOf (W := 1) (rmB l Z a0 hw [] y_ p1 (3 : Int32) p2 ky E nN 3 iN fv h0 n0 Z0 hf PY hE hn (by decide) hi (by decide) hi4) hZ (hw _ (List.mem_of_getElem? (i := 58) rfl)) (hw _ (List.mem_of_getElem? (i := 37) rfl)) (by decide) (by decide)) (g := (mkF m 27 #[.val (.ref y_), .val (.int p1), .val (.int p2)] [(.int p2), (.int (3 : Int32)), (.int p1), (.ref y_), (.int ((r0 + r1) + r2))])) rfl (by rw [hml]; rfl) (argsL := [(.ref y_), (.int p1), (.int (3 : Int32)), (.int p2)]) (rest := [(.int ((r0 + r1) + r2))]) (lenOf own_pd2 rfl) rfl (by show 2 * 0 + _ ≤ _; exact Nat.le_of_eq rfl) (hb hby d8_27) (fun _ _ => ⟨rfl, e8q, (by decide : 0 + 0 ≤ _), (by decide : 0 + 0 ≤ _)⟩)
  dsimp only [Pt.U, Pt.locs, Pt.cells, Pt.slots] at X11 l11 y11 z11 st11 hQ11
  subst l11 y11 z11
  obtain ⟨r3, rfl, hr3, N11q, e11q⟩ := hQ11
  have N11 := Fr.app N8 N11q
  have a12 : ∀ t, Steps p.tables e below (T11.setTop (mkF m 30 #[.val (.ref y_), .val (.int p1), .val (.int p2)] [(.int r3), (.int ((r0 + r1) + r2))])) t → Steps p.tables e below (s₁.setTop (entryFrame m #[(.ref y_), (.int p1), (.int p2)] 3)) t := fun t k => a10 t (st11 t k)
  have a13 : ∀ t, Steps p.tables e below (T11.setTop (mkF m 31 #[.val (.ref y_), .val (.int p1), .val (.int p2)] [(.int (((r0 + r1) + r2) + r3))])) t → Steps p.tables e below (s₁.setTop (entryFrame m #[(.ref y_), (.int p1), (.int p2)] 3)) t := by
    intro t k
    refine a12 t ?_
    show Steps p.tables e below (T11.setTop (mkF m 30 #[.val (.ref y_), .val (.int p1), .val (.int p2)] [(.int r3), (.int ((r0 + r1) + r2))])) _
    refine XS.iadd X11.here hx rfl (hb hby d8_30) rfl ?_
    exact k
  obtain ⟨fs, hr, hrun, hended, hW, hsame⟩ := X11.leave (v := some (.int (((r0 + r1) + r2) + r3))) (fun h => by rw [Bd.returns] at h; cases h)
  refine ⟨_, _, a13 _ ?_, hrun, hended, _, _, rfl, ?_, ⟨_, rfl⟩, hW, hsame.mono (by decide) (by decide)⟩
  · show Steps p.tables e below (T11.setTop (mkF m 31 #[.val (.ref y_), .val (.int p1), .val (.int p2)] [(.int (((r0 + r1) + r2) + r3))])) _
    exact retOut X11 hx Bd.returns rfl (Or.inl ⟨rfl, Or.inl rfl, _, rfl⟩) (hb hby d8_31) hr
  · show QRk Z y_ p1 p2 ky E nN iN fv h0 n0 _ T11.heap _
    rw [e11q]
    have hsum := sum4 hr0 hr1 hr2 hr3 (before_le E nN 0 iN) (before_le E nN 1 iN) (before_le E nN 2 iN) (before_le E nN 3 iN)
    exact ⟨_, rfl, hsum, N11, rfl⟩
theorem ef_rmOk (m : MethodId) (x0 : Addr) (x1 : Addr) (x2 : Addr) (x3 : Int32) (x4 : Int32) (x5 : Int32) : entryFrame m #[(.ref x0), (.ref x1), (.ref x2), (.int x3), (.int x4), (.int x5)] 7 = mkF m 0 #[.val (.ref x0), .val (.ref x1), .val (.ref x2), .val (.int x3), .val (.int x4), .val (.int x5), .unset] [] := by first | (simp [entryFrame, mkF, argsToLocals, Value.category]; done) | rfl
theorem d6_0 : decode method_3_code 0 = .ok (.iload 5, 2) := by decide +kernel
theorem d6_2 : decode method_3_code 2 = .ok (.iload_n 3, 1) := by decide +kernel
theorem d6_3 : decode method_3_code 3 = .ok (.if_icmp .lt 5, 3) := by decide +kernel
theorem d6_8 : decode method_3_code 8 = .ok (.aload_n 2, 1) := by decide +kernel
theorem d6_9 : decode method_3_code 9 = .ok (.iload_n 3, 1) := by decide +kernel
theorem d6_10 : decode method_3_code 10 = .ok (.iload 5, 2) := by decide +kernel
theorem d6_12 : decode method_3_code 12 = .ok (.invokestatic 32, 3) := by decide +kernel
theorem own_pd3 : parseMethodDescriptor "([DII)I" = some ⟨[(.array .double), .int, .int], some .int⟩ := by decide +kernel
theorem d6_15 : decode method_3_code 15 = .ok (.istore 6, 2) := by decide +kernel
theorem d6_17 : decode method_3_code 17 = .ok (.iload 6, 2) := by decide +kernel
theorem d6_19 : decode method_3_code 19 = .ok (.iload 4, 2) := by decide +kernel
theorem d6_21 : decode method_3_code 21 = .ok (.if_icmp .lt 5, 3) := by decide +kernel
theorem d6_26 : decode method_3_code 26 = .ok (.aload_n 0, 1) := by decide +kernel
theorem d6_27 : decode method_3_code 27 = .ok (.iload 6, 2) := by decide +kernel
theorem d6_29 : decode method_3_code 29 = .ok (.iaload, 1) := by decide +kernel
theorem d6_30 : decode method_3_code 30 = .ok (.aload_n 1, 1) := by decide +kernel
theorem d6_31 : decode method_3_code 31 = .ok (.iload 5, 2) := by decide +kernel
theorem d6_33 : decode method_3_code 33 = .ok (.iaload, 1) := by decide +kernel
theorem d6_34 : decode method_3_code 34 = .ok (.if_icmp .ne 7, 3) := by decide +kernel
theorem d6_37 : decode method_3_code 37 = .ok (.iconst 1, 1) := by decide +kernel
theorem d6_38 : decode method_3_code 38 = .ok (.goto 4, 3) := by decide +kernel
theorem d6_42 : decode method_3_code 42 = .ok (.ireturn, 1) := by decide +kernel
theorem d6_24 : decode method_3_code 24 = .ok (.iconst 1, 1) := by decide +kernel
theorem d6_25 : decode method_3_code 25 = .ok (.ireturn, 1) := by decide +kernel
theorem d6_6 : decode method_3_code 6 = .ok (.iconst 1, 1) := by decide +kernel
theorem d6_7 : decode method_3_code 7 = .ok (.ireturn, 1) := by decide +kernel
def QOk (Z : State) (g_ : Addr) (x_ : Addr) (y_ : Addr) (p3 : Int32) (p4 : Int32) (p5 : Int32) (kg kx ky : ClassId) (zz : Int32) (G X : List Int32) (E : List Nat) (zN nN cN iN : Nat) (fv : Nat → UInt64) (h0 : Heap) (n0 : Nat) (v : Option Value) (h : Heap) (L : List Loc) : Prop := v = some (.int 1) ∧ Fr n0 L ∧ h = h0
set_option maxRecDepth 65536 in
set_option maxHeartbeats 40000000 in
theorem rmOk (l : Launch) (Z : State) (a0 : Array Value) (hw : ∀ d ∈ tables_1, d.before a0 Z = true) (ws : List Jvm.Cond) (g_ : Addr) (x_ : Addr) (y_ : Addr) (p3 : Int32) (p4 : Int32) (p5 : Int32) (kg kx ky : ClassId) (zz : Int32) (G X : List Int32) (E : List Nat) (zN nN cN iN : Nat) (fv : Nat → UInt64) (h0 : Heap) (n0 : Nat) (Z0 : n0 ≤ h0.size) (hf : FV fv) (PG : Arv Z h0 g_ kg .int zz (G.map Value.int) (.int (0 : Int32))) (PX : Arv Z h0 x_ kx .int (4 : Int32) (X.map Value.int) (.int (0 : Int32))) (PY : Arv Z h0 y_ ky .double (4 : Int32) (E.map (fd fv)) (.double (0 : UInt64))) (hE : ∀ k, E.getD k 0 < 4) (hz : zz.toInt = (zN : Int)) (hn : p3.toInt = (nN : Int)) (hcc : p4.toInt = (cN : Int)) (hi : p5.toInt = (iN : Int)) (hi4 : iN < 4) (hR : iN < nN → rankP E nN iN < cN → G.getD (rankP E nN iN) 0 = X.getD iN 0 ∧ rankP E nN iN < zN) :
    MetFree l (⟨"com/example/tillerfront/tillerfront/engine/NearestOfferPinLaw", "ok", "([I[I[DIII)Z"⟩ : MethodName) (head1 (Jvm.Cond.code (⟨"com/example/tillerfront/tillerfront/engine/NearestOfferPinLaw", "ok", "([I[I[DIII)Z"⟩ : MethodName) method_3_code 7 (some .boolean) :: ws) ({ frames := 2, cells := 0, slots := 0, locals := 40 } : Room)) (fun a U => a = #[(.ref g_), (.ref x_), (.ref y_), (.int p3), (.int p4), (.int p5)] ∧ Z.Warmed39 U.vm ∧ U.heap = h0) (fun _ _ _ _ _ => True) (fun _ U o U' => ∃ v L, o = .returned v ∧ QOk Z g_ x_ y_ p3 p4 p5 kg kx ky zz G X E zN nN cN iN fv h0 n0 v U'.heap L ∧ FrameEnd U o U' L ({ frames := 2, cells := 0, slots := 0, locals := 40 } : Room).cells ({ frames := 2, cells := 0, slots := 0, locals := 40 } : Room).slots) := by
  refine MetFree.of_bodySF (plainFor_of_name own_pn_com_example_tillerfront_tillerfront_engine_NearestOfferPinLaw) hisR ?_
  intro p e s m args below meth c s₁ Bd hml0 hP hK
  obtain ⟨rfl, hZ, hh⟩ := hP
  have hx := Bd.exec
  have hby := Bd.bytes
  have hml : c.maxLocals = 7 := hml0
  have hown : s.vm.findClass "com/example/tillerfront/tillerfront/engine/NearestOfferPinLaw" = some m.cls := findClass_of_methodNamed Bd.named
  have hnm := (name_of_methodNamed Bd.named Bd.method).1
  have X0 : Stand p l e ({ frames := 2, cells := 0, slots := 0, locals := 40 } : Room) s m #[(.ref g_), (.ref x_), (.ref y_), (.int p3), (.int p4), (.int p5)] below meth c s₁ [] 0 0 := Stand.of_body Bd
  have e0 : s₁.heap = h0 := by rw [← hh, Bd.state]; rfl
  have N0 := Fr.nil n0
  have pre0 : ∀ t, Steps p.tables e below (s₁.setTop (mkF m 0 #[.val (.ref g_), .val (.ref x_), .val (.ref y_), .val (.int p3), .val (.int p4), .val (.int p5), .unset] [])) t → Steps p.tables e below (s₁.setTop (entryFrame m #[(.ref g_), (.ref x_), (.ref y_), (.int p3), (.int p4), (.int p5)] 7)) t := fun t k => castTop (ef_rmOk m g_ x_ y_ p3 p4 p5) k
  have a1 : ∀ t, Steps p.tables e below (s₁.setTop (mkF m 3 #[.val (.ref g_), .val (.ref x_), .val (.ref y_), .val (.int p3), .val (.int p4), .val (.int p5), .unset] [(.int p3), (.int p5)])) t → Steps p.tables e below (s₁.setTop (entryFrame m #[(.ref g_), (.ref x_), (.ref y_), (.int p3), (.int p4), (.int p5)] 7)) t := by
    intro t k
    refine pre0 t ?_
    show Steps p.tables e below (s₁.setTop (mkF m 0 #[.val (.ref g_), .val (.ref x_), .val (.ref y_), .val (.int p3), .val (.int p4), .val (.int p5), .unset] [])) _
    refine XS.iload X0.here hx rfl (hb hby d6_0) rfl ?_
    refine XS.iloadN X0.here hx rfl (hb hby d6_2) rfl ?_
    exact k
  by_cases hc3_2 : p5 < p3
  ·
    have a3 : ∀ t, Steps p.tables e below (s₁.setTop (mkF m 12 #[.val (.ref g_), .val (.ref x_), .val (.ref y_), .val (.int p3), .val (.int p4), .val (.int p5), .unset] [(.int p5), (.int p3), (.ref y_)])) t → Steps p.tables e below (s₁.setTop (entryFrame m #[(.ref g_), (.ref x_), (.ref y_), (.int p3), (.int p4), (.int p5)] 7)) t := by
      intro t k
      refine a1 t ?_
      show Steps p.tables e below (s₁.setTop (mkF m 3 #[.val (.ref g_), .val (.ref x_), .val (.ref y_), .val (.int p3), .val (.int p4), .val (.int p5), .unset] [(.int p3), (.int p5)])) _
      refine XS.icmpYes X0.here hx rfl (pc0 := 3) (pc' := 8) rfl (hb hby d6_3) rfl (tlt hc3_2).1 (by decide) (by decide) ?_
      refine XS.aloadN X0.here hx rfl (hb hby d6_8) rfl rfl ?_
      refine XS.iloadN X0.here hx rfl (hb hby d6_9) rfl ?_
      refine XS.iload X0.here hx rfl (hb hby d6_10) rfl ?_
      exact k
    obtain ⟨_, _, ⟨T4, L4, k4, n4⟩, -, X4, ⟨Lc4, hQ4, l4, y4, z4⟩, st4⟩ := Jvm.LawKit.callS X0 hx (y := (⟨"com/example/tillerfront/tillerfront/engine/NearestOfferPinLaw", "rank", "([DII)I"⟩ : MethodName)) hown (mvT hZ (hw _ (List.mem_of_getElem? (i := 53) rfl))) (mvT hZ (hw _ (List.mem_of_getElem? (i := 54) rfl))) (mvT hZ (hw _ (List.mem_of_getElem? (i := 37) rfl))) (mvT hZ (hw _ (List.mem_of_getElem? (i := 55) rfl))) (by decide) (backOf (W := 0) (rmRk l Z a0 hw [] y_ p3 p5 ky E nN iN fv h0 n0 Z0 hf PY hE hn hi hi4) hZ (hw _ (List.mem_of_getElem? (i := 55) rfl)) (hw _ (List.mem_of_getElem? (i := 37) rfl)) (by decide) (by decide)) (g := (mkF m 12 #[.val (.ref g_), .val (.ref x_), .val (.ref y_), .val (.int p3), .val (.int p4), .val (.int p5), .unset] [(.int p5), (.int p3), (.ref y_)])) rfl (by rw [hml]; rfl) (argsL := [(.ref y_), (.int p3), (.int p5)]) (rest := []) (lenOf own_pd3 rfl) rfl (by show 2 * 0 + _ ≤ _; exact Nat.le_of_eq rfl) (hb hby d6_12) (fun _ _ => ⟨rfl, e0, (by decide : 0 + 0 ≤ _), (by decide : 0 + 0 ≤ _)⟩)
    dsimp only [Pt.U, Pt.locs, Pt.cells, Pt.slots] at X4 l4 y4 z4 st4 hQ4
    subst l4 y4 z4
    obtain ⟨rk, rfl, hrk, N4q, e4q⟩ := hQ4
    have N4 := Fr.app N0 N4q
    have a5 : ∀ t, Steps p.tables e below (T4.setTop (mkF m 15 #[.val (.ref g_), .val (.ref x_), .val (.ref y_), .val (.int p3), .val (.int p4), .val (.int p5), .unset] [(.int rk)])) t → Steps p.tables e below (s₁.setTop (entryFrame m #[(.ref g_), (.ref x_), (.ref y_), (.int p3), (.int p4), (.int p5)] 7)) t := fun t k => a3 t (st4 t k)
    have a6 : ∀ t, Steps p.tables e below (T4.setTop (mkF m 21 #[.val (.ref g_), .val (.ref x_), .val (.ref y_), .val (.int p3), .val (.int p4), .val (.int p5), .val (.int rk)] [(.int p4), (.int rk)])) t → Steps p.tables e below (s₁.setTop (entryFrame m #[(.ref g_), (.ref x_), (.ref y_), (.int p3), (.int p4), (.int p5)] 7)) t := by
      intro t k
      refine a5 t ?_
      show Steps p.tables e below (T4.setTop (mkF m 15 #[.val (.ref g_), .val (.ref x_), .val (.ref y_), .val (.int p3), .val (.int p4), .val (.int p5), .unset] [(.int rk)])) _
      refine XS.istore X4.here hx rfl (hb hby d6_15) rfl (l' := #[.val (.ref g_), .val (.ref x_), .val (.ref y_), .val (.int p3), .val (.int p4), .val (.int p5), .val (.int rk)]) rfl ?_
      refine XS.iload X4.here hx rfl (hb hby d6_17) rfl ?_
      refine XS.iload X4.here hx rfl (hb hby d6_19) rfl ?_
      exact k
    by_cases hc21_7 : rk < p4
    ·
      have a8 : ∀ t, Steps p.tables e below (T4.setTop (mkF m 26 #[.val (.ref g_), .val (.ref x_), .val (.ref y_), .val (.int p3), .val (.int p4), .val (.int p5), .val (.int rk)] [])) t → Steps p.tables e below (s₁.setTop (entryFrame m #[(.ref g_), (.ref x_), (.ref y_), (.int p3), (.int p4), (.int p5)] 7)) t := by
        intro t k
        refine a6 t ?_
        show Steps p.tables e below (T4.setTop (mkF m 21 #[.val (.ref g_), .val (.ref x_), .val (.ref y_), .val (.int p3), .val (.int p4), .val (.int p5), .val (.int rk)] [(.int p4), (.int rk)])) _
        refine XS.icmpYes X4.here hx rfl (pc0 := 21) (pc' := 26) rfl (hb hby d6_21) rfl (tlt hc21_7).1 (by decide) (by decide) ?_
        exact k
      have hRR := hR ((lt32 hi hn).mp hc3_2) ((lt32 hrk hcc).mp hc21_7)
      have a9 : ∀ t, Steps p.tables e below (T4.setTop (mkF m 29 #[.val (.ref g_), .val (.ref x_), .val (.ref y_), .val (.int p3), .val (.int p4), .val (.int p5), .val (.int rk)] [(.int rk), (.ref g_)])) t → Steps p.tables e below (s₁.setTop (entryFrame m #[(.ref g_), (.ref x_), (.ref y_), (.int p3), (.int p4), (.int p5)] 7)) t := by
        intro t k
        refine a8 t ?_
        show Steps p.tables e below (T4.setTop (mkF m 26 #[.val (.ref g_), .val (.ref x_), .val (.ref y_), .val (.int p3), .val (.int p4), .val (.int p5), .val (.int rk)] [])) _
        refine XS.aloadN X4.here hx rfl (hb hby d6_26) rfl rfl ?_
        refine XS.iload X4.here hx rfl (hb hby d6_27) rfl ?_
        exact k
      obtain ⟨cl10, Ar10, qc10, Sz10, Nn10, Hs10, Gs10⟩ := id PG
      have hin10 : ¬ (rk < 0 ∨ cl10.slots.size ≤ (rk).toNatClampNeg) := inb_of Sz10 (ixb hrk hz hRR.2)
      have hat10 := Hs10.at hin10 (v := (.int (G.getD (rankP E nN iN) 0))) (loopI G (ixn hrk))
      have a11 : ∀ t, Steps p.tables e below (T4.setTop (mkF m 33 #[.val (.ref g_), .val (.ref x_), .val (.ref y_), .val (.int p3), .val (.int p4), .val (.int p5), .val (.int rk)] [(.int p5), (.ref x_), (.int (G.getD (rankP E nN iN) 0))])) t → Steps p.tables e below (s₁.setTop (entryFrame m #[(.ref g_), (.ref x_), (.ref y_), (.int p3), (.int p4), (.int p5)] 7)) t := by
        intro t k
        refine a9 t ?_
        show Steps p.tables e below (T4.setTop (mkF m 29 #[.val (.ref g_), .val (.ref x_), .val (.ref y_), .val (.int p3), .val (.int p4), .val (.int p5), .val (.int rk)] [(.int rk), (.ref g_)])) _
        refine X4.iaload hx (j := rk) (v := (.int (G.getD (rankP E nN iN) 0))) (by rw [e4q]; exact Ar10.1) (State.isArrayOf_alike hZ.alike Ar10.2.1) Ar10.2.2 hin10 hat10 (g := (mkF m 29 #[.val (.ref g_), .val (.ref x_), .val (.ref y_), .val (.int p3), .val (.int p4), .val (.int p5), .val (.int rk)] [(.int rk), (.ref g_)])) rfl rfl (hb hby d6_29) _ ?_
        refine XS.aloadN X4.here hx rfl (hb hby d6_30) rfl rfl ?_
        refine XS.iload X4.here hx rfl (hb hby d6_31) rfl ?_
        exact k
      obtain ⟨cl12, Ar12, qc12, Sz12, Nn12, Hs12, Gs12⟩ := id PX
      have hin12 : ¬ (p5 < 0 ∨ cl12.slots.size ≤ (p5).toNatClampNeg) := inb_of Sz12 (ixb hi (show (4 : Int32).toInt = ((4 : Nat) : Int) by decide) hi4)
      have hat12 := Hs12.at hin12 (v := (.int (X.getD iN 0))) (loopI X (ixn hi))
      have a13 : ∀ t, Steps p.tables e below (T4.setTop (mkF m 42 #[.val (.ref g_), .val (.ref x_), .val (.ref y_), .val (.int p3), .val (.int p4), .val (.int p5), .val (.int rk)] [(.int (1 : Int32))])) t → Steps p.tables e below (s₁.setTop (entryFrame m #[(.ref g_), (.ref x_), (.ref y_), (.int p3), (.int p4), (.int p5)] 7)) t := by
        intro t k
        refine a11 t ?_
        show Steps p.tables e below (T4.setTop (mkF m 33 #[.val (.ref g_), .val (.ref x_), .val (.ref y_), .val (.int p3), .val (.int p4), .val (.int p5), .val (.int rk)] [(.int p5), (.ref x_), (.int (G.getD (rankP E nN iN) 0))])) _
        refine X4.iaload hx (j := p5) (v := (.int (X.getD iN 0))) (by rw [e4q]; exact Ar12.1) (State.isArrayOf_alike hZ.alike Ar12.2.1) Ar12.2.2 hin12 hat12 (g := (mkF m 33 #[.val (.ref g_), .val (.ref x_), .val (.ref y_), .val (.int p3), .val (.int p4), .val (.int p5), .val (.int rk)] [(.int p5), (.ref x_), (.int (G.getD (rankP E nN iN) 0))])) rfl rfl (hb hby d6_33) _ ?_
        refine XS.icmpNo X4.here hx rfl (hb hby d6_34) rfl (teq hRR.1).2 ?_
        refine XS.iconst X4.here hx rfl (hb hby d6_37) ?_
        refine XS.goto X4.here hx rfl (pc0 := 38) (pc' := 42) rfl (hb hby d6_38) (by decide) (by decide) ?_
        exact k
      obtain ⟨fs, hr, hrun, hended, hW, hsame⟩ := X4.leave (v := some (.int (1 : Int32))) (fun h => by rw [Bd.returns] at h; cases h)
      refine ⟨_, _, a13 _ ?_, hrun, hended, _, _, rfl, ?_, ⟨_, rfl⟩, hW, hsame.mono (by decide) (by decide)⟩
      · show Steps p.tables e below (T4.setTop (mkF m 42 #[.val (.ref g_), .val (.ref x_), .val (.ref y_), .val (.int p3), .val (.int p4), .val (.int p5), .val (.int rk)] [(.int (1 : Int32))])) _
        exact retN X4 hx (t := .boolean) Bd.returns (by simp) (hb hby d6_42) hr
      · show QOk Z g_ x_ y_ p3 p4 p5 kg kx ky zz G X E zN nN cN iN fv h0 n0 _ T4.heap _
        rw [e4q]
        exact ⟨rfl, N4, rfl⟩
    ·
      have a14 : ∀ t, Steps p.tables e below (T4.setTop (mkF m 25 #[.val (.ref g_), .val (.ref x_), .val (.ref y_), .val (.int p3), .val (.int p4), .val (.int p5), .val (.int rk)] [(.int (1 : Int32))])) t → Steps p.tables e below (s₁.setTop (entryFrame m #[(.ref g_), (.ref x_), (.ref y_), (.int p3), (.int p4), (.int p5)] 7)) t := by
        intro t k
        refine a6 t ?_
        show Steps p.tables e below (T4.setTop (mkF m 21 #[.val (.ref g_), .val (.ref x_), .val (.ref y_), .val (.int p3), .val (.int p4), .val (.int p5), .val (.int rk)] [(.int p4), (.int rk)])) _
        refine XS.icmpNo X4.here hx rfl (hb hby d6_21) rfl (flt hc21_7).1 ?_
        refine XS.iconst X4.here hx rfl (hb hby d6_24) ?_
        exact k
      obtain ⟨fs, hr, hrun, hended, hW, hsame⟩ := X4.leave (v := some (.int (1 : Int32))) (fun h => by rw [Bd.returns] at h; cases h)
      refine ⟨_, _, a14 _ ?_, hrun, hended, _, _, rfl, ?_, ⟨_, rfl⟩, hW, hsame.mono (by decide) (by decide)⟩
      · show Steps p.tables e below (T4.setTop (mkF m 25 #[.val (.ref g_), .val (.ref x_), .val (.ref y_), .val (.int p3), .val (.int p4), .val (.int p5), .val (.int rk)] [(.int (1 : Int32))])) _
        exact retN X4 hx (t := .boolean) Bd.returns (by simp) (hb hby d6_25) hr
      · show QOk Z g_ x_ y_ p3 p4 p5 kg kx ky zz G X E zN nN cN iN fv h0 n0 _ T4.heap _
        rw [e4q]
        exact ⟨rfl, N4, rfl⟩
  ·
    have a15 : ∀ t, Steps p.tables e below (s₁.setTop (mkF m 7 #[.val (.ref g_), .val (.ref x_), .val (.ref y_), .val (.int p3), .val (.int p4), .val (.int p5), .unset] [(.int (1 : Int32))])) t → Steps p.tables e below (s₁.setTop (entryFrame m #[(.ref g_), (.ref x_), (.ref y_), (.int p3), (.int p4), (.int p5)] 7)) t := by
      intro t k
      refine a1 t ?_
      show Steps p.tables e below (s₁.setTop (mkF m 3 #[.val (.ref g_), .val (.ref x_), .val (.ref y_), .val (.int p3), .val (.int p4), .val (.int p5), .unset] [(.int p3), (.int p5)])) _
      refine XS.icmpNo X0.here hx rfl (hb hby d6_3) rfl (flt hc3_2).1 ?_
      refine XS.iconst X0.here hx rfl (hb hby d6_6) ?_
      exact k
    obtain ⟨fs, hr, hrun, hended, hW, hsame⟩ := X0.leave (v := some (.int (1 : Int32))) (fun h => by rw [Bd.returns] at h; cases h)
    refine ⟨_, _, a15 _ ?_, hrun, hended, _, _, rfl, ?_, ⟨_, rfl⟩, hW, hsame.mono (by decide) (by decide)⟩
    · show Steps p.tables e below (s₁.setTop (mkF m 7 #[.val (.ref g_), .val (.ref x_), .val (.ref y_), .val (.int p3), .val (.int p4), .val (.int p5), .unset] [(.int (1 : Int32))])) _
      exact retN X0 hx (t := .boolean) Bd.returns (by simp) (hb hby d6_7) hr
    · show QOk Z g_ x_ y_ p3 p4 p5 kg kx ky zz G X E zN nN cN iN fv h0 n0 _ s₁.heap _
      rw [e0]
      exact ⟨rfl, N0, rfl⟩
theorem ef_rm0 (m : MethodId) (x0 : Int32) (x1 : Int32) (x2 : Int32) (x3 : Int32) (x4 : Int32) (x5 : Int32) : entryFrame m #[(.int x0), (.int x1), (.int x2), (.int x3), (.int x4), (.int x5)] maxLocals = mkF m 0 #[.val (.int x0), .val (.int x1), .val (.int x2), .val (.int x3), .val (.int x4), .val (.int x5), .unset, .unset, .unset, .unset, .unset, .unset, .unset] [] := by first | (simp [entryFrame, mkF, argsToLocals, Value.category, maxLocals]; done) | rfl
theorem own_pd4 : parseMethodDescriptor "(I)V" = some ⟨[.int], none⟩ := by decide +kernel
theorem own_pd5 : parseMethodDescriptor "()[I" = some ⟨[], some (.array .int)⟩ := by decide +kernel
theorem own_pd6 : parseMethodDescriptor "([I[I[DIII)Z" = some ⟨[(.array .int), (.array .int), (.array .double), .int, .int, .int], some .boolean⟩ := by decide +kernel
theorem own_pd7 : parseMethodDescriptor "(ID)V" = some ⟨[.int, .double], none⟩ := by decide +kernel
def Q0 (Z : State) (p0 : Int32) (p1 : Int32) (p2 : Int32) (p3 : Int32) (p4 : Int32) (p5 : Int32) (h0 : Heap) (n0 : Nat) (v : Option Value) (h : Heap) (L : List Loc) : Prop := v = some (.int 1) ∧ Fr n0 L
set_option maxRecDepth 65536 in
set_option maxHeartbeats 40000000 in
theorem rm0 (l : Launch) (Z : State) (a0 : Array Value) (hw : ∀ d ∈ tables_1, d.before a0 Z = true) (ws : List Jvm.Cond) (p0 : Int32) (p1 : Int32) (p2 : Int32) (p3 : Int32) (p4 : Int32) (p5 : Int32) (h0 : Heap) (n0 : Nat) (Z0 : n0 ≤ h0.size) :
    MetFree l x (head1 (Jvm.Cond.code x code maxLocals ret :: ws) room_1) (fun a U => a = #[(.int p0), (.int p1), (.int p2), (.int p3), (.int p4), (.int p5)] ∧ Z.Warmed39 U.vm ∧ U.heap = h0) (fun _ _ _ _ _ => True) (fun _ U o U' => ∃ v L, o = .returned v ∧ Q0 Z p0 p1 p2 p3 p4 p5 h0 n0 v U'.heap L ∧ FrameEnd U o U' L room_1.cells room_1.slots) := by
  refine MetFree.of_bodySF (plainFor_of_name own_pn_com_example_tillerfront_tillerfront_engine_NearestOfferPinLaw) hisR ?_
  intro p e s m args below meth c s₁ Bd hml0 hP hK
  obtain ⟨rfl, hZ, hh⟩ := hP
  have hx := Bd.exec
  have hby := Bd.bytes
  have hml : c.maxLocals = 13 := hml0
  have hown : s.vm.findClass "com/example/tillerfront/tillerfront/engine/NearestOfferPinLaw" = some m.cls := findClass_of_methodNamed Bd.named
  have hnm := (name_of_methodNamed Bd.named Bd.method).1
  have X0 : Stand p l e room_1 s m #[(.int p0), (.int p1), (.int p2), (.int p3), (.int p4), (.int p5)] below meth c s₁ [] 0 0 := Stand.of_body Bd
  have e0 : s₁.heap = h0 := by rw [← hh, Bd.state]; rfl
  have N0 := Fr.nil n0
  have pre0 : ∀ t, Steps p.tables e below (s₁.setTop (mkF m 0 #[.val (.int p0), .val (.int p1), .val (.int p2), .val (.int p3), .val (.int p4), .val (.int p5), .unset, .unset, .unset, .unset, .unset, .unset, .unset] [])) t → Steps p.tables e below (s₁.setTop (entryFrame m #[(.int p0), (.int p1), (.int p2), (.int p3), (.int p4), (.int p5)] maxLocals)) t := fun t k => castTop (ef_rm0 m p0 p1 p2 p3 p4 p5) k
  have a1 : ∀ t, Steps p.tables e below (s₁.setTop (mkF m 9 #[.val (.int p0), .val (.int p1), .val (.int p2), .val (.int p3), .val (.int p4), .val (.int p5), .unset, .unset, .unset, .unset, .unset, .unset, .unset] [(.int ((1 : Int32) + ((p5 &&& (7 : Int32)) % (5 : Int32))))])) t → Steps p.tables e below (s₁.setTop (entryFrame m #[(.int p0), (.int p1), (.int p2), (.int p3), (.int p4), (.int p5)] maxLocals)) t := by
    intro t k
    refine pre0 t ?_
    show Steps p.tables e below (s₁.setTop (mkF m 0 #[.val (.int p0), .val (.int p1), .val (.int p2), .val (.int p3), .val (.int p4), .val (.int p5), .unset, .unset, .unset, .unset, .unset, .unset, .unset] [])) _
    refine XS.iconst X0.here hx rfl (hb hby at_0) ?_
    refine XS.iload X0.here hx rfl (hb hby at_1) rfl ?_
    refine XS.bipush X0.here hx rfl (hb hby at_3) ?_
    refine XS.iand X0.here hx rfl (hb hby at_5) rfl ?_
    refine XS.iconst X0.here hx rfl (hb hby at_6) ?_
    refine iremM X0 hx rfl (hb hby at_7) rfl (by decide) ?_
    refine XS.iadd X0.here hx rfl (hb hby at_8) rfl ?_
    exact k
  obtain ⟨cc, h_cc⟩ : ∃ z : Int32, z = ((1 : Int32) + ((p5 &&& (7 : Int32)) % (5 : Int32))) := ⟨_, rfl⟩
  rw [← h_cc] at a1
  have a2 : ∀ t, Steps p.tables e below (s₁.setTop (mkF m 20 #[.val (.int p0), .val (.int p1), .val (.int p2), .val (.int p3), .val (.int p4), .val (.int p5), .val (.int cc), .unset, .unset, .unset, .unset, .unset, .unset] [(.int ((((p5.toUInt32 >>> ((3 : Int32) &&& 31).toUInt32).toInt32) &&& (7 : Int32)) % (5 : Int32)))])) t → Steps p.tables e below (s₁.setTop (entryFrame m #[(.int p0), (.int p1), (.int p2), (.int p3), (.int p4), (.int p5)] maxLocals)) t := by
    intro t k
    refine a1 t ?_
    show Steps p.tables e below (s₁.setTop (mkF m 9 #[.val (.int p0), .val (.int p1), .val (.int p2), .val (.int p3), .val (.int p4), .val (.int p5), .unset, .unset, .unset, .unset, .unset, .unset, .unset] [(.int cc)])) _
    refine XS.istore X0.here hx rfl (hb hby at_9) rfl (l' := #[.val (.int p0), .val (.int p1), .val (.int p2), .val (.int p3), .val (.int p4), .val (.int p5), .val (.int cc), .unset, .unset, .unset, .unset, .unset, .unset]) rfl ?_
    refine XS.iload X0.here hx rfl (hb hby at_11) rfl ?_
    refine XS.iconst X0.here hx rfl (hb hby at_13) ?_
    refine XS.iushr X0.here hx rfl (hb hby at_14) rfl ?_
    refine XS.bipush X0.here hx rfl (hb hby at_15) ?_
    refine XS.iand X0.here hx rfl (hb hby at_17) rfl ?_
    refine XS.iconst X0.here hx rfl (hb hby at_18) ?_
    refine iremM X0 hx rfl (hb hby at_19) rfl (by decide) ?_
    exact k
  obtain ⟨nn, h_nn⟩ : ∃ z : Int32, z = ((((p5.toUInt32 >>> ((3 : Int32) &&& 31).toUInt32).toInt32) &&& (7 : Int32)) % (5 : Int32)) := ⟨_, rfl⟩
  rw [← h_nn] at a2
  obtain ⟨fv, hf⟩ : ∃ fv, FV fv := ⟨fun n => FP.i2d (Int32.ofNat n), fun _ => rfl⟩
  obtain ⟨cN, hcc⟩ := own_c h_cc
  have hcn1 : ¬ cc < 0 := nonneg hcc.1
  have hcn5 : cc.toNatClampNeg ≤ 5 := by rw [ixn hcc.1]; exact hcc.2.2
  have a3 : ∀ t, Steps p.tables e below (s₁.setTop (mkF m 23 #[.val (.int p0), .val (.int p1), .val (.int p2), .val (.int p3), .val (.int p4), .val (.int p5), .val (.int cc), .val (.int nn), .unset, .unset, .unset, .unset, .unset] [(.int (4 : Int32))])) t → Steps p.tables e below (s₁.setTop (entryFrame m #[(.int p0), (.int p1), (.int p2), (.int p3), (.int p4), (.int p5)] maxLocals)) t := by
    intro t k
    refine a2 t ?_
    show Steps p.tables e below (s₁.setTop (mkF m 20 #[.val (.int p0), .val (.int p1), .val (.int p2), .val (.int p3), .val (.int p4), .val (.int p5), .val (.int cc), .unset, .unset, .unset, .unset, .unset, .unset] [(.int nn)])) _
    refine XS.istore X0.here hx rfl (hb hby at_20) rfl (l' := #[.val (.int p0), .val (.int p1), .val (.int p2), .val (.int p3), .val (.int p4), .val (.int p5), .val (.int cc), .val (.int nn), .unset, .unset, .unset, .unset, .unset]) rfl ?_
    refine XS.iconst X0.here hx rfl (hb hby at_22) ?_
    exact k
  obtain ⟨T4, h4, kk4, X4, e4, E4, A4, st4⟩ := newP X0 hx hZ (hw _ (List.mem_of_getElem? (i := 0) rfl)) e0 (g := (mkF m 23 #[.val (.int p0), .val (.int p1), .val (.int p2), .val (.int p3), .val (.int p4), .val (.int p5), .val (.int cc), .val (.int nn), .unset, .unset, .unset, .unset, .unset] [(.int (4 : Int32))])) rfl (hb hby at_23) rfl (by decide) (cap := 4) (by decide) (by decide) (by decide) (by decide)
  obtain ⟨b4, g4⟩ : ∃ z, z = h0.size := ⟨_, rfl⟩
  rw [← g4] at A4 st4
  have g_b4 : n0 ≤ b4 := Nat.le_trans Z0 (Nat.le_of_eq g4.symm)
  have sz_b4 : h0.size ≤ b4 := Nat.le_trans ((Keep.refl h0 [])).1 (Nat.le_of_eq g4.symm)
  have V_b4 : Arv Z h4 b4 kk4 .int (4 : Int32) [(.int (0 : Int32)), (.int (0 : Int32)), (.int (0 : Int32)), (.int (0 : Int32))] (.int (0 : Int32)) := (Arv.new A4 (by decide)).pad (pad_rep [] (.int (0 : Int32)) 4)
  have K4 : Keep h0 h4 [] := Keep.ext (Keep.refl h0 []) E4
  have a5 : ∀ t, Steps p.tables e below (T4.setTop (mkF m 25 #[.val (.int p0), .val (.int p1), .val (.int p2), .val (.int p3), .val (.int p4), .val (.int p5), .val (.int cc), .val (.int nn), .unset, .unset, .unset, .unset, .unset] [(.ref b4)])) t → Steps p.tables e below (s₁.setTop (entryFrame m #[(.int p0), (.int p1), (.int p2), (.int p3), (.int p4), (.int p5)] maxLocals)) t := fun t k => a3 t (st4 t k)
  have a6 : ∀ t, Steps p.tables e below (T4.setTop (mkF m 31 #[.val (.int p0), .val (.int p1), .val (.int p2), .val (.int p3), .val (.int p4), .val (.int p5), .val (.int cc), .val (.int nn), .val (.ref b4), .unset, .unset, .unset, .unset] [(.int p0), (.int (0 : Int32)), (.ref b4)])) t → Steps p.tables e below (s₁.setTop (entryFrame m #[(.int p0), (.int p1), (.int p2), (.int p3), (.int p4), (.int p5)] maxLocals)) t := by
    intro t k
    refine a5 t ?_
    show Steps p.tables e below (T4.setTop (mkF m 25 #[.val (.int p0), .val (.int p1), .val (.int p2), .val (.int p3), .val (.int p4), .val (.int p5), .val (.int cc), .val (.int nn), .unset, .unset, .unset, .unset, .unset] [(.ref b4)])) _
    refine XS.astore X4.here hx rfl (hb hby at_25) rfl rfl (l' := #[.val (.int p0), .val (.int p1), .val (.int p2), .val (.int p3), .val (.int p4), .val (.int p5), .val (.int cc), .val (.int nn), .val (.ref b4), .unset, .unset, .unset, .unset]) rfl ?_
    refine XS.aload X4.here hx rfl (hb hby at_27) rfl rfl ?_
    refine XS.iconst X4.here hx rfl (hb hby at_29) ?_
    refine XS.iloadN X4.here hx rfl (hb hby at_30) rfl ?_
    exact k
  obtain ⟨cl7, Ar7, qc7, Sz7, Nn7, Hs7, Gs7⟩ := id V_b4
  have hin7 : ¬ ((0 : Int32) < 0 ∨ cl7.slots.size ≤ ((0 : Int32)).toNatClampNeg) := inb_of Sz7 ⟨by decide, by decide⟩
  obtain ⟨T8, h8, X8, e8, W8, st8⟩ := stI X4 hx hZ e4 Ar7 (j := (0 : Int32)) hin7 (g := (mkF m 31 #[.val (.int p0), .val (.int p1), .val (.int p2), .val (.int p3), .val (.int p4), .val (.int p5), .val (.int cc), .val (.int nn), .val (.ref b4), .unset, .unset, .unset, .unset] [(.int p0), (.int (0 : Int32)), (.ref b4)])) rfl rfl (hb hby at_31)
  have V8 : Arv Z h8 b4 kk4 .int (4 : Int32) [(.int p0), (.int (0 : Int32)), (.int (0 : Int32)), (.int (0 : Int32))] (.int (0 : Int32)) := Arv.set Ar7 qc7 Sz7 Nn7 Hs7 Gs7 rfl W8 0 rfl (Nat.le_of_ble_eq_true rfl)
  have N8 := Fr.snoc X8 N0 g_b4
  have K8 : Keep h0 h8 [] := Keep.wr K4 W8 (Or.inr sz_b4)
  have a9 : ∀ t, Steps p.tables e below (T8.setTop (mkF m 32 #[.val (.int p0), .val (.int p1), .val (.int p2), .val (.int p3), .val (.int p4), .val (.int p5), .val (.int cc), .val (.int nn), .val (.ref b4), .unset, .unset, .unset, .unset] [])) t → Steps p.tables e below (s₁.setTop (entryFrame m #[(.int p0), (.int p1), (.int p2), (.int p3), (.int p4), (.int p5)] maxLocals)) t := fun t k => a6 t (st8 t k)
  have a10 : ∀ t, Steps p.tables e below (T8.setTop (mkF m 36 #[.val (.int p0), .val (.int p1), .val (.int p2), .val (.int p3), .val (.int p4), .val (.int p5), .val (.int cc), .val (.int nn), .val (.ref b4), .unset, .unset, .unset, .unset] [(.int p1), (.int (1 : Int32)), (.ref b4)])) t → Steps p.tables e below (s₁.setTop (entryFrame m #[(.int p0), (.int p1), (.int p2), (.int p3), (.int p4), (.int p5)] maxLocals)) t := by
    intro t k
    refine a9 t ?_
    show Steps p.tables e below (T8.setTop (mkF m 32 #[.val (.int p0), .val (.int p1), .val (.int p2), .val (.int p3), .val (.int p4), .val (.int p5), .val (.int cc), .val (.int nn), .val (.ref b4), .unset, .unset, .unset, .unset] [])) _
    refine XS.aload X8.here hx rfl (hb hby at_32) rfl rfl ?_
    refine XS.iconst X8.here hx rfl (hb hby at_34) ?_
    refine XS.iloadN X8.here hx rfl (hb hby at_35) rfl ?_
    exact k
  obtain ⟨cl11, Ar11, qc11, Sz11, Nn11, Hs11, Gs11⟩ := id V8
  have hin11 : ¬ ((1 : Int32) < 0 ∨ cl11.slots.size ≤ ((1 : Int32)).toNatClampNeg) := inb_of Sz11 ⟨by decide, by decide⟩
  obtain ⟨T12, h12, X12, e12, W12, st12⟩ := stI X8 hx hZ e8 Ar11 (j := (1 : Int32)) hin11 (g := (mkF m 36 #[.val (.int p0), .val (.int p1), .val (.int p2), .val (.int p3), .val (.int p4), .val (.int p5), .val (.int cc), .val (.int nn), .val (.ref b4), .unset, .unset, .unset, .unset] [(.int p1), (.int (1 : Int32)), (.ref b4)])) rfl rfl (hb hby at_36)
  have V12 : Arv Z h12 b4 kk4 .int (4 : Int32) [(.int p0), (.int p1), (.int (0 : Int32)), (.int (0 : Int32))] (.int (0 : Int32)) := Arv.set Ar11 qc11 Sz11 Nn11 Hs11 Gs11 rfl W12 1 rfl (Nat.le_of_ble_eq_true rfl)
  have N12 := Fr.snoc X12 N8 g_b4
  have K12 : Keep h0 h12 [] := Keep.wr K8 W12 (Or.inr sz_b4)
  have a13 : ∀ t, Steps p.tables e below (T12.setTop (mkF m 37 #[.val (.int p0), .val (.int p1), .val (.int p2), .val (.int p3), .val (.int p4), .val (.int p5), .val (.int cc), .val (.int nn), .val (.ref b4), .unset, .unset, .unset, .unset] [])) t → Steps p.tables e below (s₁.setTop (entryFrame m #[(.int p0), (.int p1), (.int p2), (.int p3), (.int p4), (.int p5)] maxLocals)) t := fun t k => a10 t (st12 t k)
  have a14 : ∀ t, Steps p.tables e below (T12.setTop (mkF m 41 #[.val (.int p0), .val (.int p1), .val (.int p2), .val (.int p3), .val (.int p4), .val (.int p5), .val (.int cc), .val (.int nn), .val (.ref b4), .unset, .unset, .unset, .unset] [(.int p2), (.int (2 : Int32)), (.ref b4)])) t → Steps p.tables e below (s₁.setTop (entryFrame m #[(.int p0), (.int p1), (.int p2), (.int p3), (.int p4), (.int p5)] maxLocals)) t := by
    intro t k
    refine a13 t ?_
    show Steps p.tables e below (T12.setTop (mkF m 37 #[.val (.int p0), .val (.int p1), .val (.int p2), .val (.int p3), .val (.int p4), .val (.int p5), .val (.int cc), .val (.int nn), .val (.ref b4), .unset, .unset, .unset, .unset] [])) _
    refine XS.aload X12.here hx rfl (hb hby at_37) rfl rfl ?_
    refine XS.iconst X12.here hx rfl (hb hby at_39) ?_
    refine XS.iloadN X12.here hx rfl (hb hby at_40) rfl ?_
    exact k
  obtain ⟨cl15, Ar15, qc15, Sz15, Nn15, Hs15, Gs15⟩ := id V12
  have hin15 : ¬ ((2 : Int32) < 0 ∨ cl15.slots.size ≤ ((2 : Int32)).toNatClampNeg) := inb_of Sz15 ⟨by decide, by decide⟩
  obtain ⟨T16, h16, X16, e16, W16, st16⟩ := stI X12 hx hZ e12 Ar15 (j := (2 : Int32)) hin15 (g := (mkF m 41 #[.val (.int p0), .val (.int p1), .val (.int p2), .val (.int p3), .val (.int p4), .val (.int p5), .val (.int cc), .val (.int nn), .val (.ref b4), .unset, .unset, .unset, .unset] [(.int p2), (.int (2 : Int32)), (.ref b4)])) rfl rfl (hb hby at_41)
  have V16 : Arv Z h16 b4 kk4 .int (4 : Int32) [(.int p0), (.int p1), (.int p2), (.int (0 : Int32))] (.int (0 : Int32)) := Arv.set Ar15 qc15 Sz15 Nn15 Hs15 Gs15 rfl W16 2 rfl (Nat.le_of_ble_eq_true rfl)
  have N16 := Fr.snoc X16 N12 g_b4
  have K16 : Keep h0 h16 [] := Keep.wr K12 W16 (Or.inr sz_b4)
  have a17 : ∀ t, Steps p.tables e below (T16.setTop (mkF m 42 #[.val (.int p0), .val (.int p1), .val (.int p2), .val (.int p3), .val (.int p4), .val (.int p5), .val (.int cc), .val (.int nn), .val (.ref b4), .unset, .unset, .unset, .unset] [])) t → Steps p.tables e below (s₁.setTop (entryFrame m #[(.int p0), (.int p1), (.int p2), (.int p3), (.int p4), (.int p5)] maxLocals)) t := fun t k => a14 t (st16 t k)
  have a18 : ∀ t, Steps p.tables e below (T16.setTop (mkF m 46 #[.val (.int p0), .val (.int p1), .val (.int p2), .val (.int p3), .val (.int p4), .val (.int p5), .val (.int cc), .val (.int nn), .val (.ref b4), .unset, .unset, .unset, .unset] [(.int p3), (.int (3 : Int32)), (.ref b4)])) t → Steps p.tables e below (s₁.setTop (entryFrame m #[(.int p0), (.int p1), (.int p2), (.int p3), (.int p4), (.int p5)] maxLocals)) t := by
    intro t k
    refine a17 t ?_
    show Steps p.tables e below (T16.setTop (mkF m 42 #[.val (.int p0), .val (.int p1), .val (.int p2), .val (.int p3), .val (.int p4), .val (.int p5), .val (.int cc), .val (.int nn), .val (.ref b4), .unset, .unset, .unset, .unset] [])) _
    refine XS.aload X16.here hx rfl (hb hby at_42) rfl rfl ?_
    refine XS.iconst X16.here hx rfl (hb hby at_44) ?_
    refine XS.iloadN X16.here hx rfl (hb hby at_45) rfl ?_
    exact k
  obtain ⟨cl19, Ar19, qc19, Sz19, Nn19, Hs19, Gs19⟩ := id V16
  have hin19 : ¬ ((3 : Int32) < 0 ∨ cl19.slots.size ≤ ((3 : Int32)).toNatClampNeg) := inb_of Sz19 ⟨by decide, by decide⟩
  obtain ⟨T20, h20, X20, e20, W20, st20⟩ := stI X16 hx hZ e16 Ar19 (j := (3 : Int32)) hin19 (g := (mkF m 46 #[.val (.int p0), .val (.int p1), .val (.int p2), .val (.int p3), .val (.int p4), .val (.int p5), .val (.int cc), .val (.int nn), .val (.ref b4), .unset, .unset, .unset, .unset] [(.int p3), (.int (3 : Int32)), (.ref b4)])) rfl rfl (hb hby at_46)
  have V20 : Arv Z h20 b4 kk4 .int (4 : Int32) [(.int p0), (.int p1), (.int p2), (.int p3)] (.int (0 : Int32)) := Arv.set Ar19 qc19 Sz19 Nn19 Hs19 Gs19 rfl W20 3 rfl (Nat.le_of_ble_eq_true rfl)
  have N20 := Fr.snoc X20 N16 g_b4
  have K20 : Keep h0 h20 [] := Keep.wr K16 W20 (Or.inr sz_b4)
  have a21 : ∀ t, Steps p.tables e below (T20.setTop (mkF m 47 #[.val (.int p0), .val (.int p1), .val (.int p2), .val (.int p3), .val (.int p4), .val (.int p5), .val (.int cc), .val (.int nn), .val (.ref b4), .unset, .unset, .unset, .unset] [])) t → Steps p.tables e below (s₁.setTop (entryFrame m #[(.int p0), (.int p1), (.int p2), (.int p3), (.int p4), (.int p5)] maxLocals)) t := fun t k => a18 t (st20 t k)
  have a22 : ∀ t, Steps p.tables e below (T20.setTop (mkF m 48 #[.val (.int p0), .val (.int p1), .val (.int p2), .val (.int p3), .val (.int p4), .val (.int p5), .val (.int cc), .val (.int nn), .val (.ref b4), .unset, .unset, .unset, .unset] [(.int (4 : Int32))])) t → Steps p.tables e below (s₁.setTop (entryFrame m #[(.int p0), (.int p1), (.int p2), (.int p3), (.int p4), (.int p5)] maxLocals)) t := by
    intro t k
    refine a21 t ?_
    show Steps p.tables e below (T20.setTop (mkF m 47 #[.val (.int p0), .val (.int p1), .val (.int p2), .val (.int p3), .val (.int p4), .val (.int p5), .val (.int cc), .val (.int nn), .val (.ref b4), .unset, .unset, .unset, .unset] [])) _
    refine XS.iconst X20.here hx rfl (hb hby at_47) ?_
    exact k
  obtain ⟨T23, h23, kk23, X23, e23, E23, A23, st23⟩ := newP X20 hx hZ (hw _ (List.mem_of_getElem? (i := 1) rfl)) e20 (g := (mkF m 48 #[.val (.int p0), .val (.int p1), .val (.int p2), .val (.int p3), .val (.int p4), .val (.int p5), .val (.int cc), .val (.int nn), .val (.ref b4), .unset, .unset, .unset, .unset] [(.int (4 : Int32))])) rfl (hb hby at_48) rfl (by decide) (cap := 4) (by decide) (by decide) (by decide) (by decide)
  obtain ⟨b23, g23⟩ : ∃ z, z = h20.size := ⟨_, rfl⟩
  rw [← g23] at A23 st23
  have g_b23 : n0 ≤ b23 := Nat.le_trans (Nat.le_trans (Nat.le_trans (Nat.le_trans (Nat.le_trans (Nat.le_trans Z0 E4.1) (Keep.of_wr W8).1) (Keep.of_wr W12).1) (Keep.of_wr W16).1) (Keep.of_wr W20).1) (Nat.le_of_eq g23.symm)
  have sz_b23 : h0.size ≤ b23 := Nat.le_trans (K20).1 (Nat.le_of_eq g23.symm)
  have V_b23 : Arv Z h23 b23 kk23 .double (4 : Int32) [(.double (0 : UInt64)), (.double (0 : UInt64)), (.double (0 : UInt64)), (.double (0 : UInt64))] (.double (0 : UInt64)) := (Arv.new A23 (by decide)).pad (pad_rep [] (.double (0 : UInt64)) 4)
  have K23 : Keep h0 h23 [] := Keep.ext K20 E23
  have a24 : ∀ t, Steps p.tables e below (T23.setTop (mkF m 50 #[.val (.int p0), .val (.int p1), .val (.int p2), .val (.int p3), .val (.int p4), .val (.int p5), .val (.int cc), .val (.int nn), .val (.ref b4), .unset, .unset, .unset, .unset] [(.ref b23)])) t → Steps p.tables e below (s₁.setTop (entryFrame m #[(.int p0), (.int p1), (.int p2), (.int p3), (.int p4), (.int p5)] maxLocals)) t := fun t k => a22 t (st23 t k)
  have a25 : ∀ t, Steps p.tables e below (T23.setTop (mkF m 59 #[.val (.int p0), .val (.int p1), .val (.int p2), .val (.int p3), .val (.int p4), .val (.int p5), .val (.int cc), .val (.int nn), .val (.ref b4), .val (.ref b23), .unset, .unset, .unset] [(.int (p4 &&& (3 : Int32))), (.int (0 : Int32)), (.ref b23)])) t → Steps p.tables e below (s₁.setTop (entryFrame m #[(.int p0), (.int p1), (.int p2), (.int p3), (.int p4), (.int p5)] maxLocals)) t := by
    intro t k
    refine a24 t ?_
    show Steps p.tables e below (T23.setTop (mkF m 50 #[.val (.int p0), .val (.int p1), .val (.int p2), .val (.int p3), .val (.int p4), .val (.int p5), .val (.int cc), .val (.int nn), .val (.ref b4), .unset, .unset, .unset, .unset] [(.ref b23)])) _
    refine XS.astore X23.here hx rfl (hb hby at_50) rfl rfl (l' := #[.val (.int p0), .val (.int p1), .val (.int p2), .val (.int p3), .val (.int p4), .val (.int p5), .val (.int cc), .val (.int nn), .val (.ref b4), .val (.ref b23), .unset, .unset, .unset]) rfl ?_
    refine XS.aload X23.here hx rfl (hb hby at_52) rfl rfl ?_
    refine XS.iconst X23.here hx rfl (hb hby at_54) ?_
    refine XS.iload X23.here hx rfl (hb hby at_55) rfl ?_
    refine XS.iconst X23.here hx rfl (hb hby at_57) ?_
    refine XS.iand X23.here hx rfl (hb hby at_58) rfl ?_
    exact k
  obtain ⟨e0, he0, hx0⟩ := mask3 p4
  rw [hx0] at a25
  have a26 : ∀ t, Steps p.tables e below (T23.setTop (mkF m 60 #[.val (.int p0), .val (.int p1), .val (.int p2), .val (.int p3), .val (.int p4), .val (.int p5), .val (.int cc), .val (.int nn), .val (.ref b4), .val (.ref b23), .unset, .unset, .unset] [(.double (FP.i2d (Int32.ofNat e0))), (.int (0 : Int32)), (.ref b23)])) t → Steps p.tables e below (s₁.setTop (entryFrame m #[(.int p0), (.int p1), (.int p2), (.int p3), (.int p4), (.int p5)] maxLocals)) t := by
    intro t k
    refine a25 t ?_
    show Steps p.tables e below (T23.setTop (mkF m 59 #[.val (.int p0), .val (.int p1), .val (.int p2), .val (.int p3), .val (.int p4), .val (.int p5), .val (.int cc), .val (.int nn), .val (.ref b4), .val (.ref b23), .unset, .unset, .unset] [(.int (Int32.ofNat e0)), (.int (0 : Int32)), (.ref b23)])) _
    refine XS.i2dS X23.here hx rfl (hb hby at_59) rfl rfl ?_
    exact k
  rw [← hf e0] at a26
  obtain ⟨cl27, Ar27, qc27, Sz27, Nn27, Hs27, Gs27⟩ := id V_b23
  have hin27 : ¬ ((0 : Int32) < 0 ∨ cl27.slots.size ≤ ((0 : Int32)).toNatClampNeg) := inb_of Sz27 ⟨by decide, by decide⟩
  obtain ⟨T28, h28, X28, e28, W28, st28⟩ := stD X23 hx hZ e23 Ar27 (j := (0 : Int32)) hin27 (g := (mkF m 60 #[.val (.int p0), .val (.int p1), .val (.int p2), .val (.int p3), .val (.int p4), .val (.int p5), .val (.int cc), .val (.int nn), .val (.ref b4), .val (.ref b23), .unset, .unset, .unset] [(.double (fv e0)), (.int (0 : Int32)), (.ref b23)])) rfl rfl (hb hby at_60)
  have V28 : Arv Z h28 b23 kk23 .double (4 : Int32) [(.double (fv e0)), (.double (0 : UInt64)), (.double (0 : UInt64)), (.double (0 : UInt64))] (.double (0 : UInt64)) := Arv.set Ar27 qc27 Sz27 Nn27 Hs27 Gs27 rfl W28 0 rfl (Nat.le_of_ble_eq_true rfl)
  have N28 := Fr.snoc X28 N20 g_b23
  have K28 : Keep h0 h28 [] := Keep.wr K23 W28 (Or.inr sz_b23)
  have a29 : ∀ t, Steps p.tables e below (T28.setTop (mkF m 61 #[.val (.int p0), .val (.int p1), .val (.int p2), .val (.int p3), .val (.int p4), .val (.int p5), .val (.int cc), .val (.int nn), .val (.ref b4), .val (.ref b23), .unset, .unset, .unset] [])) t → Steps p.tables e below (s₁.setTop (entryFrame m #[(.int p0), (.int p1), (.int p2), (.int p3), (.int p4), (.int p5)] maxLocals)) t := fun t k => a26 t (st28 t k)
  have a30 : ∀ t, Steps p.tables e below (T28.setTop (mkF m 70 #[.val (.int p0), .val (.int p1), .val (.int p2), .val (.int p3), .val (.int p4), .val (.int p5), .val (.int cc), .val (.int nn), .val (.ref b4), .val (.ref b23), .unset, .unset, .unset] [(.int (((p4.toUInt32 >>> ((2 : Int32) &&& 31).toUInt32).toInt32) &&& (3 : Int32))), (.int (1 : Int32)), (.ref b23)])) t → Steps p.tables e below (s₁.setTop (entryFrame m #[(.int p0), (.int p1), (.int p2), (.int p3), (.int p4), (.int p5)] maxLocals)) t := by
    intro t k
    refine a29 t ?_
    show Steps p.tables e below (T28.setTop (mkF m 61 #[.val (.int p0), .val (.int p1), .val (.int p2), .val (.int p3), .val (.int p4), .val (.int p5), .val (.int cc), .val (.int nn), .val (.ref b4), .val (.ref b23), .unset, .unset, .unset] [])) _
    refine XS.aload X28.here hx rfl (hb hby at_61) rfl rfl ?_
    refine XS.iconst X28.here hx rfl (hb hby at_63) ?_
    refine XS.iload X28.here hx rfl (hb hby at_64) rfl ?_
    refine XS.iconst X28.here hx rfl (hb hby at_66) ?_
    refine XS.iushr X28.here hx rfl (hb hby at_67) rfl ?_
    refine XS.iconst X28.here hx rfl (hb hby at_68) ?_
    refine XS.iand X28.here hx rfl (hb hby at_69) rfl ?_
    exact k
  obtain ⟨e1, he1, hx1⟩ := mask3 ((p4.toUInt32 >>> ((2 : Int32) &&& 31).toUInt32).toInt32)
  rw [hx1] at a30
  have a31 : ∀ t, Steps p.tables e below (T28.setTop (mkF m 71 #[.val (.int p0), .val (.int p1), .val (.int p2), .val (.int p3), .val (.int p4), .val (.int p5), .val (.int cc), .val (.int nn), .val (.ref b4), .val (.ref b23), .unset, .unset, .unset] [(.double (FP.i2d (Int32.ofNat e1))), (.int (1 : Int32)), (.ref b23)])) t → Steps p.tables e below (s₁.setTop (entryFrame m #[(.int p0), (.int p1), (.int p2), (.int p3), (.int p4), (.int p5)] maxLocals)) t := by
    intro t k
    refine a30 t ?_
    show Steps p.tables e below (T28.setTop (mkF m 70 #[.val (.int p0), .val (.int p1), .val (.int p2), .val (.int p3), .val (.int p4), .val (.int p5), .val (.int cc), .val (.int nn), .val (.ref b4), .val (.ref b23), .unset, .unset, .unset] [(.int (Int32.ofNat e1)), (.int (1 : Int32)), (.ref b23)])) _
    refine XS.i2dS X28.here hx rfl (hb hby at_70) rfl rfl ?_
    exact k
  rw [← hf e1] at a31
  obtain ⟨cl32, Ar32, qc32, Sz32, Nn32, Hs32, Gs32⟩ := id V28
  have hin32 : ¬ ((1 : Int32) < 0 ∨ cl32.slots.size ≤ ((1 : Int32)).toNatClampNeg) := inb_of Sz32 ⟨by decide, by decide⟩
  obtain ⟨T33, h33, X33, e33, W33, st33⟩ := stD X28 hx hZ e28 Ar32 (j := (1 : Int32)) hin32 (g := (mkF m 71 #[.val (.int p0), .val (.int p1), .val (.int p2), .val (.int p3), .val (.int p4), .val (.int p5), .val (.int cc), .val (.int nn), .val (.ref b4), .val (.ref b23), .unset, .unset, .unset] [(.double (fv e1)), (.int (1 : Int32)), (.ref b23)])) rfl rfl (hb hby at_71)
  have V33 : Arv Z h33 b23 kk23 .double (4 : Int32) [(.double (fv e0)), (.double (fv e1)), (.double (0 : UInt64)), (.double (0 : UInt64))] (.double (0 : UInt64)) := Arv.set Ar32 qc32 Sz32 Nn32 Hs32 Gs32 rfl W33 1 rfl (Nat.le_of_ble_eq_true rfl)
  have N33 := Fr.snoc X33 N28 g_b23
  have K33 : Keep h0 h33 [] := Keep.wr K28 W33 (Or.inr sz_b23)
  have a34 : ∀ t, Steps p.tables e below (T33.setTop (mkF m 72 #[.val (.int p0), .val (.int p1), .val (.int p2), .val (.int p3), .val (.int p4), .val (.int p5), .val (.int cc), .val (.int nn), .val (.ref b4), .val (.ref b23), .unset, .unset, .unset] [])) t → Steps p.tables e below (s₁.setTop (entryFrame m #[(.int p0), (.int p1), (.int p2), (.int p3), (.int p4), (.int p5)] maxLocals)) t := fun t k => a31 t (st33 t k)
  have a35 : ∀ t, Steps p.tables e below (T33.setTop (mkF m 81 #[.val (.int p0), .val (.int p1), .val (.int p2), .val (.int p3), .val (.int p4), .val (.int p5), .val (.int cc), .val (.int nn), .val (.ref b4), .val (.ref b23), .unset, .unset, .unset] [(.int (((p4.toUInt32 >>> ((4 : Int32) &&& 31).toUInt32).toInt32) &&& (3 : Int32))), (.int (2 : Int32)), (.ref b23)])) t → Steps p.tables e below (s₁.setTop (entryFrame m #[(.int p0), (.int p1), (.int p2), (.int p3), (.int p4), (.int p5)] maxLocals)) t := by
    intro t k
    refine a34 t ?_
    show Steps p.tables e below (T33.setTop (mkF m 72 #[.val (.int p0), .val (.int p1), .val (.int p2), .val (.int p3), .val (.int p4), .val (.int p5), .val (.int cc), .val (.int nn), .val (.ref b4), .val (.ref b23), .unset, .unset, .unset] [])) _
    refine XS.aload X33.here hx rfl (hb hby at_72) rfl rfl ?_
    refine XS.iconst X33.here hx rfl (hb hby at_74) ?_
    refine XS.iload X33.here hx rfl (hb hby at_75) rfl ?_
    refine XS.iconst X33.here hx rfl (hb hby at_77) ?_
    refine XS.iushr X33.here hx rfl (hb hby at_78) rfl ?_
    refine XS.iconst X33.here hx rfl (hb hby at_79) ?_
    refine XS.iand X33.here hx rfl (hb hby at_80) rfl ?_
    exact k
  obtain ⟨e2, he2, hx2⟩ := mask3 ((p4.toUInt32 >>> ((4 : Int32) &&& 31).toUInt32).toInt32)
  rw [hx2] at a35
  have a36 : ∀ t, Steps p.tables e below (T33.setTop (mkF m 82 #[.val (.int p0), .val (.int p1), .val (.int p2), .val (.int p3), .val (.int p4), .val (.int p5), .val (.int cc), .val (.int nn), .val (.ref b4), .val (.ref b23), .unset, .unset, .unset] [(.double (FP.i2d (Int32.ofNat e2))), (.int (2 : Int32)), (.ref b23)])) t → Steps p.tables e below (s₁.setTop (entryFrame m #[(.int p0), (.int p1), (.int p2), (.int p3), (.int p4), (.int p5)] maxLocals)) t := by
    intro t k
    refine a35 t ?_
    show Steps p.tables e below (T33.setTop (mkF m 81 #[.val (.int p0), .val (.int p1), .val (.int p2), .val (.int p3), .val (.int p4), .val (.int p5), .val (.int cc), .val (.int nn), .val (.ref b4), .val (.ref b23), .unset, .unset, .unset] [(.int (Int32.ofNat e2)), (.int (2 : Int32)), (.ref b23)])) _
    refine XS.i2dS X33.here hx rfl (hb hby at_81) rfl rfl ?_
    exact k
  rw [← hf e2] at a36
  obtain ⟨cl37, Ar37, qc37, Sz37, Nn37, Hs37, Gs37⟩ := id V33
  have hin37 : ¬ ((2 : Int32) < 0 ∨ cl37.slots.size ≤ ((2 : Int32)).toNatClampNeg) := inb_of Sz37 ⟨by decide, by decide⟩
  obtain ⟨T38, h38, X38, e38, W38, st38⟩ := stD X33 hx hZ e33 Ar37 (j := (2 : Int32)) hin37 (g := (mkF m 82 #[.val (.int p0), .val (.int p1), .val (.int p2), .val (.int p3), .val (.int p4), .val (.int p5), .val (.int cc), .val (.int nn), .val (.ref b4), .val (.ref b23), .unset, .unset, .unset] [(.double (fv e2)), (.int (2 : Int32)), (.ref b23)])) rfl rfl (hb hby at_82)
  have V38 : Arv Z h38 b23 kk23 .double (4 : Int32) [(.double (fv e0)), (.double (fv e1)), (.double (fv e2)), (.double (0 : UInt64))] (.double (0 : UInt64)) := Arv.set Ar37 qc37 Sz37 Nn37 Hs37 Gs37 rfl W38 2 rfl (Nat.le_of_ble_eq_true rfl)
  have N38 := Fr.snoc X38 N33 g_b23
  have K38 : Keep h0 h38 [] := Keep.wr K33 W38 (Or.inr sz_b23)
  have a39 : ∀ t, Steps p.tables e below (T38.setTop (mkF m 83 #[.val (.int p0), .val (.int p1), .val (.int p2), .val (.int p3), .val (.int p4), .val (.int p5), .val (.int cc), .val (.int nn), .val (.ref b4), .val (.ref b23), .unset, .unset, .unset] [])) t → Steps p.tables e below (s₁.setTop (entryFrame m #[(.int p0), (.int p1), (.int p2), (.int p3), (.int p4), (.int p5)] maxLocals)) t := fun t k => a36 t (st38 t k)
  have a40 : ∀ t, Steps p.tables e below (T38.setTop (mkF m 93 #[.val (.int p0), .val (.int p1), .val (.int p2), .val (.int p3), .val (.int p4), .val (.int p5), .val (.int cc), .val (.int nn), .val (.ref b4), .val (.ref b23), .unset, .unset, .unset] [(.int (((p4.toUInt32 >>> ((6 : Int32) &&& 31).toUInt32).toInt32) &&& (3 : Int32))), (.int (3 : Int32)), (.ref b23)])) t → Steps p.tables e below (s₁.setTop (entryFrame m #[(.int p0), (.int p1), (.int p2), (.int p3), (.int p4), (.int p5)] maxLocals)) t := by
    intro t k
    refine a39 t ?_
    show Steps p.tables e below (T38.setTop (mkF m 83 #[.val (.int p0), .val (.int p1), .val (.int p2), .val (.int p3), .val (.int p4), .val (.int p5), .val (.int cc), .val (.int nn), .val (.ref b4), .val (.ref b23), .unset, .unset, .unset] [])) _
    refine XS.aload X38.here hx rfl (hb hby at_83) rfl rfl ?_
    refine XS.iconst X38.here hx rfl (hb hby at_85) ?_
    refine XS.iload X38.here hx rfl (hb hby at_86) rfl ?_
    refine XS.bipush X38.here hx rfl (hb hby at_88) ?_
    refine XS.iushr X38.here hx rfl (hb hby at_90) rfl ?_
    refine XS.iconst X38.here hx rfl (hb hby at_91) ?_
    refine XS.iand X38.here hx rfl (hb hby at_92) rfl ?_
    exact k
  obtain ⟨e3, he3, hx3⟩ := mask3 ((p4.toUInt32 >>> ((6 : Int32) &&& 31).toUInt32).toInt32)
  rw [hx3] at a40
  have a41 : ∀ t, Steps p.tables e below (T38.setTop (mkF m 94 #[.val (.int p0), .val (.int p1), .val (.int p2), .val (.int p3), .val (.int p4), .val (.int p5), .val (.int cc), .val (.int nn), .val (.ref b4), .val (.ref b23), .unset, .unset, .unset] [(.double (FP.i2d (Int32.ofNat e3))), (.int (3 : Int32)), (.ref b23)])) t → Steps p.tables e below (s₁.setTop (entryFrame m #[(.int p0), (.int p1), (.int p2), (.int p3), (.int p4), (.int p5)] maxLocals)) t := by
    intro t k
    refine a40 t ?_
    show Steps p.tables e below (T38.setTop (mkF m 93 #[.val (.int p0), .val (.int p1), .val (.int p2), .val (.int p3), .val (.int p4), .val (.int p5), .val (.int cc), .val (.int nn), .val (.ref b4), .val (.ref b23), .unset, .unset, .unset] [(.int (Int32.ofNat e3)), (.int (3 : Int32)), (.ref b23)])) _
    refine XS.i2dS X38.here hx rfl (hb hby at_93) rfl rfl ?_
    exact k
  rw [← hf e3] at a41
  obtain ⟨cl42, Ar42, qc42, Sz42, Nn42, Hs42, Gs42⟩ := id V38
  have hin42 : ¬ ((3 : Int32) < 0 ∨ cl42.slots.size ≤ ((3 : Int32)).toNatClampNeg) := inb_of Sz42 ⟨by decide, by decide⟩
  obtain ⟨T43, h43, X43, e43, W43, st43⟩ := stD X38 hx hZ e38 Ar42 (j := (3 : Int32)) hin42 (g := (mkF m 94 #[.val (.int p0), .val (.int p1), .val (.int p2), .val (.int p3), .val (.int p4), .val (.int p5), .val (.int cc), .val (.int nn), .val (.ref b4), .val (.ref b23), .unset, .unset, .unset] [(.double (fv e3)), (.int (3 : Int32)), (.ref b23)])) rfl rfl (hb hby at_94)
  have V43 : Arv Z h43 b23 kk23 .double (4 : Int32) [(.double (fv e0)), (.double (fv e1)), (.double (fv e2)), (.double (fv e3))] (.double (0 : UInt64)) := Arv.set Ar42 qc42 Sz42 Nn42 Hs42 Gs42 rfl W43 3 rfl (Nat.le_of_ble_eq_true rfl)
  have N43 := Fr.snoc X43 N38 g_b23
  have K43 : Keep h0 h43 [] := Keep.wr K38 W43 (Or.inr sz_b23)
  have a44 : ∀ t, Steps p.tables e below (T43.setTop (mkF m 95 #[.val (.int p0), .val (.int p1), .val (.int p2), .val (.int p3), .val (.int p4), .val (.int p5), .val (.int cc), .val (.int nn), .val (.ref b4), .val (.ref b23), .unset, .unset, .unset] [])) t → Steps p.tables e below (s₁.setTop (entryFrame m #[(.int p0), (.int p1), (.int p2), (.int p3), (.int p4), (.int p5)] maxLocals)) t := fun t k => a41 t (st43 t k)
  obtain ⟨T45, h45, X45, e45, E45, A45, D45, -, st45⟩ := newO X43 hx hZ hown (hw _ (List.mem_of_getElem? (i := 2) rfl)) (hw _ (List.mem_of_getElem? (i := 3) rfl)) (hw _ (List.mem_of_getElem? (i := 4) rfl)) e43 (g := (mkF m 95 #[.val (.int p0), .val (.int p1), .val (.int p2), .val (.int p3), .val (.int p4), .val (.int p5), .val (.int cc), .val (.int nn), .val (.ref b4), .val (.ref b23), .unset, .unset, .unset] [])) rfl (hb hby at_95) (by decide) (by decide)
  obtain ⟨b45, g45⟩ : ∃ z, z = h43.size := ⟨_, rfl⟩
  rw [← g45] at A45 D45 st45
  have g_b45 : n0 ≤ b45 := Nat.le_trans (Nat.le_trans (Nat.le_trans (Nat.le_trans (Nat.le_trans (Nat.le_trans (Nat.le_trans (Nat.le_trans (Nat.le_trans (Nat.le_trans (Nat.le_trans Z0 E4.1) (Keep.of_wr W8).1) (Keep.of_wr W12).1) (Keep.of_wr W16).1) (Keep.of_wr W20).1) E23.1) (Keep.of_wr W28).1) (Keep.of_wr W33).1) (Keep.of_wr W38).1) (Keep.of_wr W43).1) (Nat.le_of_eq g45.symm)
  have sz_b45 : h0.size ≤ b45 := Nat.le_trans (K43).1 (Nat.le_of_eq g45.symm)
  have K45 : Keep h0 h45 [] := Keep.ext K43 E45
  have F_indices_b45 : Fld Z h45 b45 "com/example/tillerfront/tillerfront/engine/Nearest" "indices" "[I" .null := D45 (Or.inr (hw _ (List.mem_of_getElem? (i := 12) rfl))) (ty := (.array .int)) (by decide)
  have F_distances_b45 : Fld Z h45 b45 "com/example/tillerfront/tillerfront/engine/Nearest" "distances" "[D" .null := D45 (Or.inr (hw _ (List.mem_of_getElem? (i := 14) rfl))) (ty := (.array .double)) (by decide)
  have F_size_b45 : Fld Z h45 b45 "com/example/tillerfront/tillerfront/engine/Nearest" "size" "I" (.int (0 : Int32)) := D45 (Or.inl (hw _ (List.mem_of_getElem? (i := 21) rfl))) (ty := .int) (by decide)
  have a46 : ∀ t, Steps p.tables e below (T45.setTop (mkF m 98 #[.val (.int p0), .val (.int p1), .val (.int p2), .val (.int p3), .val (.int p4), .val (.int p5), .val (.int cc), .val (.int nn), .val (.ref b4), .val (.ref b23), .unset, .unset, .unset] [(.ref b45)])) t → Steps p.tables e below (s₁.setTop (entryFrame m #[(.int p0), (.int p1), (.int p2), (.int p3), (.int p4), (.int p5)] maxLocals)) t := fun t k => a44 t (st45 t k)
  have a47 : ∀ t, Steps p.tables e below (T45.setTop (mkF m 101 #[.val (.int p0), .val (.int p1), .val (.int p2), .val (.int p3), .val (.int p4), .val (.int p5), .val (.int cc), .val (.int nn), .val (.ref b4), .val (.ref b23), .unset, .unset, .unset] [(.int cc), (.ref b45), (.ref b45)])) t → Steps p.tables e below (s₁.setTop (entryFrame m #[(.int p0), (.int p1), (.int p2), (.int p3), (.int p4), (.int p5)] maxLocals)) t := by
    intro t k
    refine a46 t ?_
    show Steps p.tables e below (T45.setTop (mkF m 98 #[.val (.int p0), .val (.int p1), .val (.int p2), .val (.int p3), .val (.int p4), .val (.int p5), .val (.int cc), .val (.int nn), .val (.ref b4), .val (.ref b23), .unset, .unset, .unset] [(.ref b45)])) _
    refine XS.dup X45.here hx rfl (hb hby at_98) rfl rfl ?_
    refine XS.iload X45.here hx rfl (hb hby at_99) rfl ?_
    exact k
  obtain ⟨_, _, ⟨T48, L48, k48, n48⟩, -, X48, ⟨Lc48, hQ48, l48, y48, z48⟩, st48⟩ := X45.specialBack hx (y := (⟨"com/example/tillerfront/tillerfront/engine/Nearest", "<init>", "(I)V"⟩ : MethodName)) rfl hown (mvT hZ (hw _ (List.mem_of_getElem? (i := 5) rfl))) (mvT hZ (hw _ (List.mem_of_getElem? (i := 6) rfl))) (mvT hZ (hw _ (List.mem_of_getElem? (i := 7) rfl))) (by decide) (backOf (W := 1) (rmNI l Z a0 hw [] b45 cc h45 n0 (Nat.le_trans (Nat.le_trans (Nat.le_trans (Nat.le_trans (Nat.le_trans (Nat.le_trans (Nat.le_trans (Nat.le_trans (Nat.le_trans (Nat.le_trans (Nat.le_trans Z0 E4.1) (Keep.of_wr W8).1) (Keep.of_wr W12).1) (Keep.of_wr W16).1) (Keep.of_wr W20).1) E23.1) (Keep.of_wr W28).1) (Keep.of_wr W33).1) (Keep.of_wr W38).1) (Keep.of_wr W43).1) E45.1) A45 g_b45 F_indices_b45 F_distances_b45 F_size_b45 hcn1 hcn5) hZ (hw _ (List.mem_of_getElem? (i := 7) rfl)) (hw _ (List.mem_of_getElem? (i := 4) rfl)) (by decide) (by decide)) (g := (mkF m 101 #[.val (.int p0), .val (.int p1), .val (.int p2), .val (.int p3), .val (.int p4), .val (.int p5), .val (.int cc), .val (.int nn), .val (.ref b4), .val (.ref b23), .unset, .unset, .unset] [(.int cc), (.ref b45), (.ref b45)])) rfl (by rw [hml]; rfl) (Steps.refl _) (a := b45) (argsL := [(.int cc)]) (rest := [(.ref b45)]) (lenOf own_pd4 rfl) rfl (by show 2 * 0 + _ ≤ _; exact Nat.le_of_eq rfl) (hb hby at_101) (fun _ _ => ⟨rfl, e45, (by decide : 3 + 2 ≤ _), (by decide : 11 + 10 ≤ _)⟩)
  dsimp only [Pt.U, Pt.locs, Pt.cells, Pt.slots] at X48 l48 y48 z48 st48 hQ48
  subst l48 y48 z48
  obtain ⟨ia48, da48, ki48, kd48, rfl, N48q, K48q, FI48, FD48, FS48, VI48, VD48, XI48, GI48, SI48, GD48, SD48, nid48⟩ := hQ48
  have N48 := Fr.app N43 N48q
  have KK48 : Keep h0 T48.heap [] := Keep.trans K45 K48q (allS (Or.inr sz_b45) all0)
  have PI48 : Arv Z T48.heap ia48 ki48 .int cc ((runP (0 : Int32) cN [p0, p1, p2, p3] [e0, e1, e2, e3] 0).1.map Value.int) (.int (0 : Int32)) := Arv.pad VI48 (repI cN)
  have PD48 : Arv Z T48.heap da48 kd48 .double cc ((runP (0 : Int32) cN [p0, p1, p2, p3] [e0, e1, e2, e3] 0).2.1.map (fd fv)) (.double (0 : UInt64)) := Arv.pad VD48 (repD hf cN)
  have a49 : ∀ t, Steps p.tables e below (T48.setTop (mkF m 104 #[.val (.int p0), .val (.int p1), .val (.int p2), .val (.int p3), .val (.int p4), .val (.int p5), .val (.int cc), .val (.int nn), .val (.ref b4), .val (.ref b23), .unset, .unset, .unset] [(.ref b45)])) t → Steps p.tables e below (s₁.setTop (entryFrame m #[(.int p0), (.int p1), (.int p2), (.int p3), (.int p4), (.int p5)] maxLocals)) t := fun t k => a47 t (st48.trans k)
  have a50 : ∀ t, Steps p.tables e below (T48.setTop (mkF m 106 #[.val (.int p0), .val (.int p1), .val (.int p2), .val (.int p3), .val (.int p4), .val (.int p5), .val (.int cc), .val (.int nn), .val (.ref b4), .val (.ref b23), .val (.ref b45), .unset, .unset] [])) t → Steps p.tables e below (s₁.setTop (entryFrame m #[(.int p0), (.int p1), (.int p2), (.int p3), (.int p4), (.int p5)] maxLocals)) t := by
    intro t k
    refine a49 t ?_
    show Steps p.tables e below (T48.setTop (mkF m 104 #[.val (.int p0), .val (.int p1), .val (.int p2), .val (.int p3), .val (.int p4), .val (.int p5), .val (.int cc), .val (.int nn), .val (.ref b4), .val (.ref b23), .unset, .unset, .unset] [(.ref b45)])) _
    refine XS.astore X48.here hx rfl (hb hby at_104) rfl rfl (l' := #[.val (.int p0), .val (.int p1), .val (.int p2), .val (.int p3), .val (.int p4), .val (.int p5), .val (.int cc), .val (.int nn), .val (.ref b4), .val (.ref b23), .val (.ref b45), .unset, .unset]) rfl ?_
    exact k
  have hinv := run_inv (0 : Int32) hcc.2.1 [p0, p1, p2, p3] [e0, e1, e2, e3] (ds4 he0 he1 he2 he3)
  rcases own_n h_nn with el | el | el | el | el
  ·
    rw [el] at a50
    have a51 : ∀ t, Steps p.tables e below (T48.setTop (mkF m 183 #[.val (.int p0), .val (.int p1), .val (.int p2), .val (.int p3), .val (.int p4), .val (.int p5), .val (.int cc), .val (.int (0 : Int32)), .val (.ref b4), .val (.ref b23), .val (.ref b45), .unset, .unset] [(.ref b45)])) t → Steps p.tables e below (s₁.setTop (entryFrame m #[(.int p0), (.int p1), (.int p2), (.int p3), (.int p4), (.int p5)] maxLocals)) t := by
      intro t k
      refine a50 t ?_
      show Steps p.tables e below (T48.setTop (mkF m 106 #[.val (.int p0), .val (.int p1), .val (.int p2), .val (.int p3), .val (.int p4), .val (.int p5), .val (.int cc), .val (.int (0 : Int32)), .val (.ref b4), .val (.ref b23), .val (.ref b45), .unset, .unset] [])) _
      refine XS.iload X48.here hx rfl (hb hby at_106) rfl ?_
      refine XS.ifYes X48.here hx rfl (pc0 := 108) (pc' := 124) rfl (hb hby at_108) rfl ((if0 _ _).trans (flt (by decide)).2.2.2) (by decide) (by decide) ?_
      refine XS.iload X48.here hx rfl (hb hby at_124) rfl ?_
      refine XS.iconst X48.here hx rfl (hb hby at_126) ?_
      refine XS.icmpYes X48.here hx rfl (pc0 := 127) (pc' := 143) rfl (hb hby at_127) rfl (flt (by decide)).2.2.2 (by decide) (by decide) ?_
      refine XS.iload X48.here hx rfl (hb hby at_143) rfl ?_
      refine XS.iconst X48.here hx rfl (hb hby at_145) ?_
      refine XS.icmpYes X48.here hx rfl (pc0 := 146) (pc' := 162) rfl (hb hby at_146) rfl (flt (by decide)).2.2.2 (by decide) (by decide) ?_
      refine XS.iload X48.here hx rfl (hb hby at_162) rfl ?_
      refine XS.iconst X48.here hx rfl (hb hby at_164) ?_
      refine XS.icmpYes X48.here hx rfl (pc0 := 165) (pc' := 181) rfl (hb hby at_165) rfl (flt (by decide)).2.2.2 (by decide) (by decide) ?_
      refine XS.aload X48.here hx rfl (hb hby at_181) rfl rfl ?_
      exact k
    obtain ⟨cq52, kq52, q52a, q52b, q52c⟩ := isOf hZ rfl (A45.keep K48q)
    obtain ⟨_, _, ⟨T52, L52, k52, n52⟩, -, X52, ⟨Lc52, hQ52, l52, y52, z52⟩, st52⟩ := X48.virtualBack hx (y := (⟨"com/example/tillerfront/tillerfront/engine/Nearest", "indices", "()[I"⟩ : MethodName)) (z := (⟨"com/example/tillerfront/tillerfront/engine/Nearest", "indices", "()[I"⟩ : MethodName)) hown (mvT hZ (hw _ (List.mem_of_getElem? (i := 15) rfl))) (mvT hZ (hw _ (List.mem_of_getElem? (i := 16) rfl))) (notFace_of_selects (args := #[]) (mvT hZ (hw _ (List.mem_of_getElem? (i := 18) rfl)))) (mvT hZ (hw _ (List.mem_of_getElem? (i := 18) rfl))) (mvT hZ (hw _ (List.mem_of_getElem? (i := 17) rfl))) (by decide) (backOf (W := 0) (rmIn l Z a0 hw [] b45 ia48 ki48 cc (0 : Int32) cN (runP (0 : Int32) cN [p0, p1, p2, p3] [e0, e1, e2, e3] 0).2.2 (runP (0 : Int32) cN [p0, p1, p2, p3] [e0, e1, e2, e3] 0).1 T48.heap n0 (Nat.le_trans (Nat.le_trans (Nat.le_trans (Nat.le_trans (Nat.le_trans (Nat.le_trans (Nat.le_trans (Nat.le_trans (Nat.le_trans (Nat.le_trans (Nat.le_trans (Nat.le_trans Z0 E4.1) (Keep.of_wr W8).1) (Keep.of_wr W12).1) (Keep.of_wr W16).1) (Keep.of_wr W20).1) E23.1) (Keep.of_wr W28).1) (Keep.of_wr W33).1) (Keep.of_wr W38).1) (Keep.of_wr W43).1) E45.1) K48q.1) FI48 FS48 PI48 XI48 hcc ⟨(show (0 : Int32).toInt = ((0 : Nat) : Int) by decide), (hinv 0).2.2.2⟩ (hinv 0).1) hZ (hw _ (List.mem_of_getElem? (i := 19) rfl)) (hw _ (List.mem_of_getElem? (i := 4) rfl)) (by decide) (by decide)) q52a q52c (g := (mkF m 183 #[.val (.int p0), .val (.int p1), .val (.int p2), .val (.int p3), .val (.int p4), .val (.int p5), .val (.int cc), .val (.int (0 : Int32)), .val (.ref b4), .val (.ref b23), .val (.ref b45), .unset, .unset] [(.ref b45)])) rfl (by rw [hml]; rfl) (Steps.refl _) (argsL := []) (rest := []) (lenOf own_pd5 rfl) rfl (by show 2 * 0 + _ ≤ _; exact Nat.le_of_eq rfl) (hb hby at_183) (fun _ _ => ⟨rfl, rfl, (by decide : 5 + 1 ≤ _), (by decide : 21 + 5 ≤ _)⟩)
    dsimp only [Pt.U, Pt.locs, Pt.cells, Pt.slots] at X52 l52 y52 z52 st52 hQ52
    subst l52 y52 z52
    obtain ⟨gb52, kg52, rfl, N52q, K52q, VG52⟩ := hQ52
    have N52 := Fr.app N48 N52q
    have KK52 : Keep h0 T52.heap [] := Keep.trans KK48 K52q all0
    have a53 : ∀ t, Steps p.tables e below (T52.setTop (mkF m 186 #[.val (.int p0), .val (.int p1), .val (.int p2), .val (.int p3), .val (.int p4), .val (.int p5), .val (.int cc), .val (.int (0 : Int32)), .val (.ref b4), .val (.ref b23), .val (.ref b45), .unset, .unset] [(.ref gb52)])) t → Steps p.tables e below (s₁.setTop (entryFrame m #[(.int p0), (.int p1), (.int p2), (.int p3), (.int p4), (.int p5)] maxLocals)) t := fun t k => a51 t (st52.trans k)
    have a54 : ∀ t, Steps p.tables e below (T52.setTop (mkF m 188 #[.val (.int p0), .val (.int p1), .val (.int p2), .val (.int p3), .val (.int p4), .val (.int p5), .val (.int cc), .val (.int (0 : Int32)), .val (.ref b4), .val (.ref b23), .val (.ref b45), .val (.ref gb52), .unset] [])) t → Steps p.tables e below (s₁.setTop (entryFrame m #[(.int p0), (.int p1), (.int p2), (.int p3), (.int p4), (.int p5)] maxLocals)) t := by
      intro t k
      refine a53 t ?_
      show Steps p.tables e below (T52.setTop (mkF m 186 #[.val (.int p0), .val (.int p1), .val (.int p2), .val (.int p3), .val (.int p4), .val (.int p5), .val (.int cc), .val (.int (0 : Int32)), .val (.ref b4), .val (.ref b23), .val (.ref b45), .unset, .unset] [(.ref gb52)])) _
      refine XS.astore X52.here hx rfl (hb hby at_186) rfl rfl (l' := #[.val (.int p0), .val (.int p1), .val (.int p2), .val (.int p3), .val (.int p4), .val (.int p5), .val (.int cc), .val (.int (0 : Int32)), .val (.ref b4), .val (.ref b23), .val (.ref b45), .val (.ref gb52), .unset]) rfl ?_
      exact k
    have hnear := nearL p0 p1 p2 p3 (0 : Int32) (n := 0) hcc.2 (by decide) he0 he1 he2 he3
    have a55 : ∀ t, Steps p.tables e below (T52.setTop (mkF m 192 #[.val (.int p0), .val (.int p1), .val (.int p2), .val (.int p3), .val (.int p4), .val (.int p5), .val (.int cc), .val (.int (0 : Int32)), .val (.ref b4), .val (.ref b23), .val (.ref b45), .val (.ref gb52), .unset] [(.int (0 : Int32)), (.int cc)])) t → Steps p.tables e below (s₁.setTop (entryFrame m #[(.int p0), (.int p1), (.int p2), (.int p3), (.int p4), (.int p5)] maxLocals)) t := by
      intro t k
      refine a54 t ?_
      show Steps p.tables e below (T52.setTop (mkF m 188 #[.val (.int p0), .val (.int p1), .val (.int p2), .val (.int p3), .val (.int p4), .val (.int p5), .val (.int cc), .val (.int (0 : Int32)), .val (.ref b4), .val (.ref b23), .val (.ref b45), .val (.ref gb52), .unset] [])) _
      refine XS.iload X52.here hx rfl (hb hby at_188) rfl ?_
      refine XS.iload X52.here hx rfl (hb hby at_190) rfl ?_
      exact k
    obtain ⟨_, _, ⟨T56, L56, k56, n56⟩, -, X56, ⟨Lc56, hQ56, l56, y56, z56⟩, st56⟩ := Jvm.LawKit.callS X52 hx (y := (⟨"java/lang/Math", "min", "(II)I"⟩ : MethodName)) hown (mvT hZ (hw _ (List.mem_of_getElem? (i := 34) rfl))) (mvT hZ (hw _ (List.mem_of_getElem? (i := 27) rfl))) (mvT hZ (hw _ (List.mem_of_getElem? (i := 28) rfl))) (mvT hZ (hw _ (List.mem_of_getElem? (i := 29) rfl))) (by decide) (backOf (W := 0) (rmMin l Z a0 hw [] cc (0 : Int32) T52.heap n0 (Nat.le_trans (Nat.le_trans (Nat.le_trans (Nat.le_trans (Nat.le_trans (Nat.le_trans (Nat.le_trans (Nat.le_trans (Nat.le_trans (Nat.le_trans (Nat.le_trans (Nat.le_trans (Nat.le_trans Z0 E4.1) (Keep.of_wr W8).1) (Keep.of_wr W12).1) (Keep.of_wr W16).1) (Keep.of_wr W20).1) E23.1) (Keep.of_wr W28).1) (Keep.of_wr W33).1) (Keep.of_wr W38).1) (Keep.of_wr W43).1) E45.1) K48q.1) K52q.1) ) hZ (hw _ (List.mem_of_getElem? (i := 29) rfl)) (hw _ (List.mem_of_getElem? (i := 28) rfl)) (by decide) (by decide)) (g := (mkF m 192 #[.val (.int p0), .val (.int p1), .val (.int p2), .val (.int p3), .val (.int p4), .val (.int p5), .val (.int cc), .val (.int (0 : Int32)), .val (.ref b4), .val (.ref b23), .val (.ref b45), .val (.ref gb52), .unset] [(.int (0 : Int32)), (.int cc)])) rfl (by rw [hml]; rfl) (argsL := [(.int cc), (.int (0 : Int32))]) (rest := []) (lenOf own_pd0 rfl) rfl (by show 2 * 0 + _ ≤ _; exact Nat.le_of_eq rfl) (hb hby at_192) (fun _ _ => ⟨rfl, rfl, (by decide : 6 + 0 ≤ _), (by decide : 26 + 0 ≤ _)⟩)
    dsimp only [Pt.U, Pt.locs, Pt.cells, Pt.slots] at X56 l56 y56 z56 st56 hQ56
    subst l56 y56 z56
    obtain ⟨rfl, N56q, e56q⟩ := hQ56
    have N56 := Fr.app N52 N56q
    have a57 : ∀ t, Steps p.tables e below (T56.setTop (mkF m 195 #[.val (.int p0), .val (.int p1), .val (.int p2), .val (.int p3), .val (.int p4), .val (.int p5), .val (.int cc), .val (.int (0 : Int32)), .val (.ref b4), .val (.ref b23), .val (.ref b45), .val (.ref gb52), .unset] [(.int (if (0 : Int32) < cc then (0 : Int32) else cc))])) t → Steps p.tables e below (s₁.setTop (entryFrame m #[(.int p0), (.int p1), (.int p2), (.int p3), (.int p4), (.int p5)] maxLocals)) t := fun t k => a55 t (st56 t k)
    have a58 : ∀ t, Steps p.tables e below (T56.setTop (mkF m 199 #[.val (.int p0), .val (.int p1), .val (.int p2), .val (.int p3), .val (.int p4), .val (.int p5), .val (.int cc), .val (.int (0 : Int32)), .val (.ref b4), .val (.ref b23), .val (.ref b45), .val (.ref gb52), .val (.int (if (0 : Int32) < cc then (0 : Int32) else cc))] [(.ref gb52)])) t → Steps p.tables e below (s₁.setTop (entryFrame m #[(.int p0), (.int p1), (.int p2), (.int p3), (.int p4), (.int p5)] maxLocals)) t := by
      intro t k
      refine a57 t ?_
      show Steps p.tables e below (T56.setTop (mkF m 195 #[.val (.int p0), .val (.int p1), .val (.int p2), .val (.int p3), .val (.int p4), .val (.int p5), .val (.int cc), .val (.int (0 : Int32)), .val (.ref b4), .val (.ref b23), .val (.ref b45), .val (.ref gb52), .unset] [(.int (if (0 : Int32) < cc then (0 : Int32) else cc))])) _
      refine XS.istore X56.here hx rfl (hb hby at_195) rfl (l' := #[.val (.int p0), .val (.int p1), .val (.int p2), .val (.int p3), .val (.int p4), .val (.int p5), .val (.int cc), .val (.int (0 : Int32)), .val (.ref b4), .val (.ref b23), .val (.ref b45), .val (.ref gb52), .val (.int (if (0 : Int32) < cc then (0 : Int32) else cc))]) rfl ?_
      refine XS.aload X56.here hx rfl (hb hby at_197) rfl rfl ?_
      exact k
    obtain ⟨cl59, Ar59, qc59, Sz59, Nn59, Hs59, Gs59⟩ := id VG52
    have a60 : ∀ t, Steps p.tables e below (T56.setTop (mkF m 218 #[.val (.int p0), .val (.int p1), .val (.int p2), .val (.int p3), .val (.int p4), .val (.int p5), .val (.int cc), .val (.int (0 : Int32)), .val (.ref b4), .val (.ref b23), .val (.ref b45), .val (.ref gb52), .val (.int (if (0 : Int32) < cc then (0 : Int32) else cc))] [(.int (0 : Int32)), (.int cc), (.int (0 : Int32)), (.ref b23), (.ref b4), (.ref gb52)])) t → Steps p.tables e below (s₁.setTop (entryFrame m #[(.int p0), (.int p1), (.int p2), (.int p3), (.int p4), (.int p5)] maxLocals)) t := by
      intro t k
      refine a58 t ?_
      show Steps p.tables e below (T56.setTop (mkF m 199 #[.val (.int p0), .val (.int p1), .val (.int p2), .val (.int p3), .val (.int p4), .val (.int p5), .val (.int cc), .val (.int (0 : Int32)), .val (.ref b4), .val (.ref b23), .val (.ref b45), .val (.ref gb52), .val (.int (if (0 : Int32) < cc then (0 : Int32) else cc))] [(.ref gb52)])) _
      refine X56.arraylength hx (by rw [e56q]; exact Ar59.1) (State.isArrayOf_alike hZ.alike Ar59.2.1) (g := (mkF m 199 #[.val (.int p0), .val (.int p1), .val (.int p2), .val (.int p3), .val (.int p4), .val (.int p5), .val (.int cc), .val (.int (0 : Int32)), .val (.ref b4), .val (.ref b23), .val (.ref b45), .val (.ref gb52), .val (.int (if (0 : Int32) < cc then (0 : Int32) else cc))] [(.ref gb52)])) rfl rfl (hb hby at_199) _ ?_
      rw [len_of Sz59 Nn59]
      refine XS.iload X56.here hx rfl (hb hby at_200) rfl ?_
      refine XS.icmpYes X56.here hx rfl (pc0 := 202) (pc' := 207) rfl (hb hby at_202) rfl (teq (own_len hcc.1 (show (0 : Int32).toInt = ((0 : Nat) : Int) by decide) (by rw [← hnear.1]; exact (show (0 : Int32).toInt = ((0 : Nat) : Int) by decide)))).1 (by decide) (by decide) ?_
      refine XS.aload X56.here hx rfl (hb hby at_207) rfl rfl ?_
      refine XS.aload X56.here hx rfl (hb hby at_209) rfl rfl ?_
      refine XS.aload X56.here hx rfl (hb hby at_211) rfl rfl ?_
      refine XS.iload X56.here hx rfl (hb hby at_213) rfl ?_
      refine XS.iload X56.here hx rfl (hb hby at_215) rfl ?_
      refine XS.iconst X56.here hx rfl (hb hby at_217) ?_
      exact k
    obtain ⟨_, _, ⟨T61, L61, k61, n61⟩, -, X61, ⟨Lc61, hQ61, l61, y61, z61⟩, st61⟩ := Jvm.LawKit.callS X56 hx (y := (⟨"com/example/tillerfront/tillerfront/engine/NearestOfferPinLaw", "ok", "([I[I[DIII)Z"⟩ : MethodName)) hown (mvT hZ (hw _ (List.mem_of_getElem? (i := 35) rfl))) (mvT hZ (hw _ (List.mem_of_getElem? (i := 36) rfl))) (mvT hZ (hw _ (List.mem_of_getElem? (i := 37) rfl))) (mvT hZ (hw _ (List.mem_of_getElem? (i := 38) rfl))) (by decide) (backOf (W := 0) (rmOk l Z a0 hw [] gb52 b4 b23 (0 : Int32) cc (0 : Int32) kg52 kk4 kk23 (0 : Int32) ((runP (0 : Int32) cN [p0, p1, p2, p3] [e0, e1, e2, e3] 0).1.take (runP (0 : Int32) cN [p0, p1, p2, p3] [e0, e1, e2, e3] 0).2.2) [p0, p1, p2, p3] [e0, e1, e2, e3] (runP (0 : Int32) cN [p0, p1, p2, p3] [e0, e1, e2, e3] 0).2.2 0 cN 0 fv T52.heap n0 (Nat.le_trans (Nat.le_trans (Nat.le_trans (Nat.le_trans (Nat.le_trans (Nat.le_trans (Nat.le_trans (Nat.le_trans (Nat.le_trans (Nat.le_trans (Nat.le_trans (Nat.le_trans (Nat.le_trans Z0 E4.1) (Keep.of_wr W8).1) (Keep.of_wr W12).1) (Keep.of_wr W16).1) (Keep.of_wr W20).1) E23.1) (Keep.of_wr W28).1) (Keep.of_wr W33).1) (Keep.of_wr W38).1) (Keep.of_wr W43).1) E45.1) K48q.1) K52q.1) hf VG52 ((((Arv.other (Arv.other (Arv.other (Arv.other (V20.ext E23) W28 (Nat.ne_of_lt (Nat.lt_of_lt_of_le V20.lt (Nat.le_of_eq g23.symm)))) W33 (Nat.ne_of_lt (Nat.lt_of_lt_of_le V20.lt (Nat.le_of_eq g23.symm)))) W38 (Nat.ne_of_lt (Nat.lt_of_lt_of_le V20.lt (Nat.le_of_eq g23.symm)))) W43 (Nat.ne_of_lt (Nat.lt_of_lt_of_le V20.lt (Nat.le_of_eq g23.symm)))).ext E45).keep K48q (ninS (Nat.ne_of_lt (Nat.lt_of_lt_of_le (Arv.other (Arv.other (Arv.other (Arv.other (V20.ext E23) W28 (Nat.ne_of_lt (Nat.lt_of_lt_of_le V20.lt (Nat.le_of_eq g23.symm)))) W33 (Nat.ne_of_lt (Nat.lt_of_lt_of_le V20.lt (Nat.le_of_eq g23.symm)))) W38 (Nat.ne_of_lt (Nat.lt_of_lt_of_le V20.lt (Nat.le_of_eq g23.symm)))) W43 (Nat.ne_of_lt (Nat.lt_of_lt_of_le V20.lt (Nat.le_of_eq g23.symm)))).lt (Nat.le_of_eq g45.symm))) nin0)).keep K52q nin0) (((V43.ext E45).keep K48q (ninS (Nat.ne_of_lt (Nat.lt_of_lt_of_le V43.lt (Nat.le_of_eq g45.symm))) nin0)).keep K52q nin0) (ds4 he0 he1 he2 he3) (show (0 : Int32).toInt = ((0 : Nat) : Int) by decide) (by decide) hcc.1 (by decide) (by decide) (own_fin hnear (by decide))) hZ (hw _ (List.mem_of_getElem? (i := 38) rfl)) (hw _ (List.mem_of_getElem? (i := 37) rfl)) (by decide) (by decide)) (g := (mkF m 218 #[.val (.int p0), .val (.int p1), .val (.int p2), .val (.int p3), .val (.int p4), .val (.int p5), .val (.int cc), .val (.int (0 : Int32)), .val (.ref b4), .val (.ref b23), .val (.ref b45), .val (.ref gb52), .val (.int (if (0 : Int32) < cc then (0 : Int32) else cc))] [(.int (0 : Int32)), (.int cc), (.int (0 : Int32)), (.ref b23), (.ref b4), (.ref gb52)])) rfl (by rw [hml]; rfl) (argsL := [(.ref gb52), (.ref b4), (.ref b23), (.int (0 : Int32)), (.int cc), (.int (0 : Int32))]) (rest := []) (lenOf own_pd6 rfl) rfl (by show 2 * 0 + _ ≤ _; exact Nat.le_of_eq rfl) (hb hby at_218) (fun _ _ => ⟨rfl, e56q, (by decide : 6 + 0 ≤ _), (by decide : 26 + 0 ≤ _)⟩)
    dsimp only [Pt.U, Pt.locs, Pt.cells, Pt.slots] at X61 l61 y61 z61 st61 hQ61
    subst l61 y61 z61
    obtain ⟨rfl, N61q, e61q⟩ := hQ61
    have N61 := Fr.app N56 N61q
    have a62 : ∀ t, Steps p.tables e below (T61.setTop (mkF m 221 #[.val (.int p0), .val (.int p1), .val (.int p2), .val (.int p3), .val (.int p4), .val (.int p5), .val (.int cc), .val (.int (0 : Int32)), .val (.ref b4), .val (.ref b23), .val (.ref b45), .val (.ref gb52), .val (.int (if (0 : Int32) < cc then (0 : Int32) else cc))] [(.int (1 : Int32))])) t → Steps p.tables e below (s₁.setTop (entryFrame m #[(.int p0), (.int p1), (.int p2), (.int p3), (.int p4), (.int p5)] maxLocals)) t := fun t k => a60 t (st61 t k)
    have a63 : ∀ t, Steps p.tables e below (T61.setTop (mkF m 235 #[.val (.int p0), .val (.int p1), .val (.int p2), .val (.int p3), .val (.int p4), .val (.int p5), .val (.int cc), .val (.int (0 : Int32)), .val (.ref b4), .val (.ref b23), .val (.ref b45), .val (.ref gb52), .val (.int (if (0 : Int32) < cc then (0 : Int32) else cc))] [(.int (1 : Int32)), (.int cc), (.int (0 : Int32)), (.ref b23), (.ref b4), (.ref gb52)])) t → Steps p.tables e below (s₁.setTop (entryFrame m #[(.int p0), (.int p1), (.int p2), (.int p3), (.int p4), (.int p5)] maxLocals)) t := by
      intro t k
      refine a62 t ?_
      show Steps p.tables e below (T61.setTop (mkF m 221 #[.val (.int p0), .val (.int p1), .val (.int p2), .val (.int p3), .val (.int p4), .val (.int p5), .val (.int cc), .val (.int (0 : Int32)), .val (.ref b4), .val (.ref b23), .val (.ref b45), .val (.ref gb52), .val (.int (if (0 : Int32) < cc then (0 : Int32) else cc))] [(.int (1 : Int32))])) _
      refine XS.ifNo X61.here hx rfl (hb hby at_221) rfl ((if0 _ _).trans (feq (by decide)).1) ?_
      refine XS.aload X61.here hx rfl (hb hby at_224) rfl rfl ?_
      refine XS.aload X61.here hx rfl (hb hby at_226) rfl rfl ?_
      refine XS.aload X61.here hx rfl (hb hby at_228) rfl rfl ?_
      refine XS.iload X61.here hx rfl (hb hby at_230) rfl ?_
      refine XS.iload X61.here hx rfl (hb hby at_232) rfl ?_
      refine XS.iconst X61.here hx rfl (hb hby at_234) ?_
      exact k
    obtain ⟨_, _, ⟨T64, L64, k64, n64⟩, -, X64, ⟨Lc64, hQ64, l64, y64, z64⟩, st64⟩ := Jvm.LawKit.callS X61 hx (y := (⟨"com/example/tillerfront/tillerfront/engine/NearestOfferPinLaw", "ok", "([I[I[DIII)Z"⟩ : MethodName)) hown (mvT hZ (hw _ (List.mem_of_getElem? (i := 35) rfl))) (mvT hZ (hw _ (List.mem_of_getElem? (i := 36) rfl))) (mvT hZ (hw _ (List.mem_of_getElem? (i := 37) rfl))) (mvT hZ (hw _ (List.mem_of_getElem? (i := 38) rfl))) (by decide) (backOf (W := 0) (rmOk l Z a0 hw [] gb52 b4 b23 (0 : Int32) cc (1 : Int32) kg52 kk4 kk23 (0 : Int32) ((runP (0 : Int32) cN [p0, p1, p2, p3] [e0, e1, e2, e3] 0).1.take (runP (0 : Int32) cN [p0, p1, p2, p3] [e0, e1, e2, e3] 0).2.2) [p0, p1, p2, p3] [e0, e1, e2, e3] (runP (0 : Int32) cN [p0, p1, p2, p3] [e0, e1, e2, e3] 0).2.2 0 cN 1 fv T52.heap n0 (Nat.le_trans (Nat.le_trans (Nat.le_trans (Nat.le_trans (Nat.le_trans (Nat.le_trans (Nat.le_trans (Nat.le_trans (Nat.le_trans (Nat.le_trans (Nat.le_trans (Nat.le_trans (Nat.le_trans Z0 E4.1) (Keep.of_wr W8).1) (Keep.of_wr W12).1) (Keep.of_wr W16).1) (Keep.of_wr W20).1) E23.1) (Keep.of_wr W28).1) (Keep.of_wr W33).1) (Keep.of_wr W38).1) (Keep.of_wr W43).1) E45.1) K48q.1) K52q.1) hf VG52 ((((Arv.other (Arv.other (Arv.other (Arv.other (V20.ext E23) W28 (Nat.ne_of_lt (Nat.lt_of_lt_of_le V20.lt (Nat.le_of_eq g23.symm)))) W33 (Nat.ne_of_lt (Nat.lt_of_lt_of_le V20.lt (Nat.le_of_eq g23.symm)))) W38 (Nat.ne_of_lt (Nat.lt_of_lt_of_le V20.lt (Nat.le_of_eq g23.symm)))) W43 (Nat.ne_of_lt (Nat.lt_of_lt_of_le V20.lt (Nat.le_of_eq g23.symm)))).ext E45).keep K48q (ninS (Nat.ne_of_lt (Nat.lt_of_lt_of_le (Arv.other (Arv.other (Arv.other (Arv.other (V20.ext E23) W28 (Nat.ne_of_lt (Nat.lt_of_lt_of_le V20.lt (Nat.le_of_eq g23.symm)))) W33 (Nat.ne_of_lt (Nat.lt_of_lt_of_le V20.lt (Nat.le_of_eq g23.symm)))) W38 (Nat.ne_of_lt (Nat.lt_of_lt_of_le V20.lt (Nat.le_of_eq g23.symm)))) W43 (Nat.ne_of_lt (Nat.lt_of_lt_of_le V20.lt (Nat.le_of_eq g23.symm)))).lt (Nat.le_of_eq g45.symm))) nin0)).keep K52q nin0) (((V43.ext E45).keep K48q (ninS (Nat.ne_of_lt (Nat.lt_of_lt_of_le V43.lt (Nat.le_of_eq g45.symm))) nin0)).keep K52q nin0) (ds4 he0 he1 he2 he3) (show (0 : Int32).toInt = ((0 : Nat) : Int) by decide) (by decide) hcc.1 (by decide) (by decide) (own_fin hnear (by decide))) hZ (hw _ (List.mem_of_getElem? (i := 38) rfl)) (hw _ (List.mem_of_getElem? (i := 37) rfl)) (by decide) (by decide)) (g := (mkF m 235 #[.val (.int p0), .val (.int p1), .val (.int p2), .val (.int p3), .val (.int p4), .val (.int p5), .val (.int cc), .val (.int (0 : Int32)), .val (.ref b4), .val (.ref b23), .val (.ref b45), .val (.ref gb52), .val (.int (if (0 : Int32) < cc then (0 : Int32) else cc))] [(.int (1 : Int32)), (.int cc), (.int (0 : Int32)), (.ref b23), (.ref b4), (.ref gb52)])) rfl (by rw [hml]; rfl) (argsL := [(.ref gb52), (.ref b4), (.ref b23), (.int (0 : Int32)), (.int cc), (.int (1 : Int32))]) (rest := []) (lenOf own_pd6 rfl) rfl (by show 2 * 0 + _ ≤ _; exact Nat.le_of_eq rfl) (hb hby at_235) (fun _ _ => ⟨rfl, e61q, (by decide : 6 + 0 ≤ _), (by decide : 26 + 0 ≤ _)⟩)
    dsimp only [Pt.U, Pt.locs, Pt.cells, Pt.slots] at X64 l64 y64 z64 st64 hQ64
    subst l64 y64 z64
    obtain ⟨rfl, N64q, e64q⟩ := hQ64
    have N64 := Fr.app N61 N64q
    have a65 : ∀ t, Steps p.tables e below (T64.setTop (mkF m 238 #[.val (.int p0), .val (.int p1), .val (.int p2), .val (.int p3), .val (.int p4), .val (.int p5), .val (.int cc), .val (.int (0 : Int32)), .val (.ref b4), .val (.ref b23), .val (.ref b45), .val (.ref gb52), .val (.int (if (0 : Int32) < cc then (0 : Int32) else cc))] [(.int (1 : Int32))])) t → Steps p.tables e below (s₁.setTop (entryFrame m #[(.int p0), (.int p1), (.int p2), (.int p3), (.int p4), (.int p5)] maxLocals)) t := fun t k => a63 t (st64 t k)
    have a66 : ∀ t, Steps p.tables e below (T64.setTop (mkF m 252 #[.val (.int p0), .val (.int p1), .val (.int p2), .val (.int p3), .val (.int p4), .val (.int p5), .val (.int cc), .val (.int (0 : Int32)), .val (.ref b4), .val (.ref b23), .val (.ref b45), .val (.ref gb52), .val (.int (if (0 : Int32) < cc then (0 : Int32) else cc))] [(.int (2 : Int32)), (.int cc), (.int (0 : Int32)), (.ref b23), (.ref b4), (.ref gb52)])) t → Steps p.tables e below (s₁.setTop (entryFrame m #[(.int p0), (.int p1), (.int p2), (.int p3), (.int p4), (.int p5)] maxLocals)) t := by
      intro t k
      refine a65 t ?_
      show Steps p.tables e below (T64.setTop (mkF m 238 #[.val (.int p0), .val (.int p1), .val (.int p2), .val (.int p3), .val (.int p4), .val (.int p5), .val (.int cc), .val (.int (0 : Int32)), .val (.ref b4), .val (.ref b23), .val (.ref b45), .val (.ref gb52), .val (.int (if (0 : Int32) < cc then (0 : Int32) else cc))] [(.int (1 : Int32))])) _
      refine XS.ifNo X64.here hx rfl (hb hby at_238) rfl ((if0 _ _).trans (feq (by decide)).1) ?_
      refine XS.aload X64.here hx rfl (hb hby at_241) rfl rfl ?_
      refine XS.aload X64.here hx rfl (hb hby at_243) rfl rfl ?_
      refine XS.aload X64.here hx rfl (hb hby at_245) rfl rfl ?_
      refine XS.iload X64.here hx rfl (hb hby at_247) rfl ?_
      refine XS.iload X64.here hx rfl (hb hby at_249) rfl ?_
      refine XS.iconst X64.here hx rfl (hb hby at_251) ?_
      exact k
    obtain ⟨_, _, ⟨T67, L67, k67, n67⟩, -, X67, ⟨Lc67, hQ67, l67, y67, z67⟩, st67⟩ := Jvm.LawKit.callS X64 hx (y := (⟨"com/example/tillerfront/tillerfront/engine/NearestOfferPinLaw", "ok", "([I[I[DIII)Z"⟩ : MethodName)) hown (mvT hZ (hw _ (List.mem_of_getElem? (i := 35) rfl))) (mvT hZ (hw _ (List.mem_of_getElem? (i := 36) rfl))) (mvT hZ (hw _ (List.mem_of_getElem? (i := 37) rfl))) (mvT hZ (hw _ (List.mem_of_getElem? (i := 38) rfl))) (by decide) (backOf (W := 0) (rmOk l Z a0 hw [] gb52 b4 b23 (0 : Int32) cc (2 : Int32) kg52 kk4 kk23 (0 : Int32) ((runP (0 : Int32) cN [p0, p1, p2, p3] [e0, e1, e2, e3] 0).1.take (runP (0 : Int32) cN [p0, p1, p2, p3] [e0, e1, e2, e3] 0).2.2) [p0, p1, p2, p3] [e0, e1, e2, e3] (runP (0 : Int32) cN [p0, p1, p2, p3] [e0, e1, e2, e3] 0).2.2 0 cN 2 fv T52.heap n0 (Nat.le_trans (Nat.le_trans (Nat.le_trans (Nat.le_trans (Nat.le_trans (Nat.le_trans (Nat.le_trans (Nat.le_trans (Nat.le_trans (Nat.le_trans (Nat.le_trans (Nat.le_trans (Nat.le_trans Z0 E4.1) (Keep.of_wr W8).1) (Keep.of_wr W12).1) (Keep.of_wr W16).1) (Keep.of_wr W20).1) E23.1) (Keep.of_wr W28).1) (Keep.of_wr W33).1) (Keep.of_wr W38).1) (Keep.of_wr W43).1) E45.1) K48q.1) K52q.1) hf VG52 ((((Arv.other (Arv.other (Arv.other (Arv.other (V20.ext E23) W28 (Nat.ne_of_lt (Nat.lt_of_lt_of_le V20.lt (Nat.le_of_eq g23.symm)))) W33 (Nat.ne_of_lt (Nat.lt_of_lt_of_le V20.lt (Nat.le_of_eq g23.symm)))) W38 (Nat.ne_of_lt (Nat.lt_of_lt_of_le V20.lt (Nat.le_of_eq g23.symm)))) W43 (Nat.ne_of_lt (Nat.lt_of_lt_of_le V20.lt (Nat.le_of_eq g23.symm)))).ext E45).keep K48q (ninS (Nat.ne_of_lt (Nat.lt_of_lt_of_le (Arv.other (Arv.other (Arv.other (Arv.other (V20.ext E23) W28 (Nat.ne_of_lt (Nat.lt_of_lt_of_le V20.lt (Nat.le_of_eq g23.symm)))) W33 (Nat.ne_of_lt (Nat.lt_of_lt_of_le V20.lt (Nat.le_of_eq g23.symm)))) W38 (Nat.ne_of_lt (Nat.lt_of_lt_of_le V20.lt (Nat.le_of_eq g23.symm)))) W43 (Nat.ne_of_lt (Nat.lt_of_lt_of_le V20.lt (Nat.le_of_eq g23.symm)))).lt (Nat.le_of_eq g45.symm))) nin0)).keep K52q nin0) (((V43.ext E45).keep K48q (ninS (Nat.ne_of_lt (Nat.lt_of_lt_of_le V43.lt (Nat.le_of_eq g45.symm))) nin0)).keep K52q nin0) (ds4 he0 he1 he2 he3) (show (0 : Int32).toInt = ((0 : Nat) : Int) by decide) (by decide) hcc.1 (by decide) (by decide) (own_fin hnear (by decide))) hZ (hw _ (List.mem_of_getElem? (i := 38) rfl)) (hw _ (List.mem_of_getElem? (i := 37) rfl)) (by decide) (by decide)) (g := (mkF m 252 #[.val (.int p0), .val (.int p1), .val (.int p2), .val (.int p3), .val (.int p4), .val (.int p5), .val (.int cc), .val (.int (0 : Int32)), .val (.ref b4), .val (.ref b23), .val (.ref b45), .val (.ref gb52), .val (.int (if (0 : Int32) < cc then (0 : Int32) else cc))] [(.int (2 : Int32)), (.int cc), (.int (0 : Int32)), (.ref b23), (.ref b4), (.ref gb52)])) rfl (by rw [hml]; rfl) (argsL := [(.ref gb52), (.ref b4), (.ref b23), (.int (0 : Int32)), (.int cc), (.int (2 : Int32))]) (rest := []) (lenOf own_pd6 rfl) rfl (by show 2 * 0 + _ ≤ _; exact Nat.le_of_eq rfl) (hb hby at_252) (fun _ _ => ⟨rfl, e64q, (by decide : 6 + 0 ≤ _), (by decide : 26 + 0 ≤ _)⟩)
    dsimp only [Pt.U, Pt.locs, Pt.cells, Pt.slots] at X67 l67 y67 z67 st67 hQ67
    subst l67 y67 z67
    obtain ⟨rfl, N67q, e67q⟩ := hQ67
    have N67 := Fr.app N64 N67q
    have a68 : ∀ t, Steps p.tables e below (T67.setTop (mkF m 255 #[.val (.int p0), .val (.int p1), .val (.int p2), .val (.int p3), .val (.int p4), .val (.int p5), .val (.int cc), .val (.int (0 : Int32)), .val (.ref b4), .val (.ref b23), .val (.ref b45), .val (.ref gb52), .val (.int (if (0 : Int32) < cc then (0 : Int32) else cc))] [(.int (1 : Int32))])) t → Steps p.tables e below (s₁.setTop (entryFrame m #[(.int p0), (.int p1), (.int p2), (.int p3), (.int p4), (.int p5)] maxLocals)) t := fun t k => a66 t (st67 t k)
    have a69 : ∀ t, Steps p.tables e below (T67.setTop (mkF m 269 #[.val (.int p0), .val (.int p1), .val (.int p2), .val (.int p3), .val (.int p4), .val (.int p5), .val (.int cc), .val (.int (0 : Int32)), .val (.ref b4), .val (.ref b23), .val (.ref b45), .val (.ref gb52), .val (.int (if (0 : Int32) < cc then (0 : Int32) else cc))] [(.int (3 : Int32)), (.int cc), (.int (0 : Int32)), (.ref b23), (.ref b4), (.ref gb52)])) t → Steps p.tables e below (s₁.setTop (entryFrame m #[(.int p0), (.int p1), (.int p2), (.int p3), (.int p4), (.int p5)] maxLocals)) t := by
      intro t k
      refine a68 t ?_
      show Steps p.tables e below (T67.setTop (mkF m 255 #[.val (.int p0), .val (.int p1), .val (.int p2), .val (.int p3), .val (.int p4), .val (.int p5), .val (.int cc), .val (.int (0 : Int32)), .val (.ref b4), .val (.ref b23), .val (.ref b45), .val (.ref gb52), .val (.int (if (0 : Int32) < cc then (0 : Int32) else cc))] [(.int (1 : Int32))])) _
      refine XS.ifNo X67.here hx rfl (hb hby at_255) rfl ((if0 _ _).trans (feq (by decide)).1) ?_
      refine XS.aload X67.here hx rfl (hb hby at_258) rfl rfl ?_
      refine XS.aload X67.here hx rfl (hb hby at_260) rfl rfl ?_
      refine XS.aload X67.here hx rfl (hb hby at_262) rfl rfl ?_
      refine XS.iload X67.here hx rfl (hb hby at_264) rfl ?_
      refine XS.iload X67.here hx rfl (hb hby at_266) rfl ?_
      refine XS.iconst X67.here hx rfl (hb hby at_268) ?_
      exact k
    obtain ⟨_, _, ⟨T70, L70, k70, n70⟩, -, X70, ⟨Lc70, hQ70, l70, y70, z70⟩, st70⟩ := Jvm.LawKit.callS X67 hx (y := (⟨"com/example/tillerfront/tillerfront/engine/NearestOfferPinLaw", "ok", "([I[I[DIII)Z"⟩ : MethodName)) hown (mvT hZ (hw _ (List.mem_of_getElem? (i := 35) rfl))) (mvT hZ (hw _ (List.mem_of_getElem? (i := 36) rfl))) (mvT hZ (hw _ (List.mem_of_getElem? (i := 37) rfl))) (mvT hZ (hw _ (List.mem_of_getElem? (i := 38) rfl))) (by decide) (backOf (W := 0) (rmOk l Z a0 hw [] gb52 b4 b23 (0 : Int32) cc (3 : Int32) kg52 kk4 kk23 (0 : Int32) ((runP (0 : Int32) cN [p0, p1, p2, p3] [e0, e1, e2, e3] 0).1.take (runP (0 : Int32) cN [p0, p1, p2, p3] [e0, e1, e2, e3] 0).2.2) [p0, p1, p2, p3] [e0, e1, e2, e3] (runP (0 : Int32) cN [p0, p1, p2, p3] [e0, e1, e2, e3] 0).2.2 0 cN 3 fv T52.heap n0 (Nat.le_trans (Nat.le_trans (Nat.le_trans (Nat.le_trans (Nat.le_trans (Nat.le_trans (Nat.le_trans (Nat.le_trans (Nat.le_trans (Nat.le_trans (Nat.le_trans (Nat.le_trans (Nat.le_trans Z0 E4.1) (Keep.of_wr W8).1) (Keep.of_wr W12).1) (Keep.of_wr W16).1) (Keep.of_wr W20).1) E23.1) (Keep.of_wr W28).1) (Keep.of_wr W33).1) (Keep.of_wr W38).1) (Keep.of_wr W43).1) E45.1) K48q.1) K52q.1) hf VG52 ((((Arv.other (Arv.other (Arv.other (Arv.other (V20.ext E23) W28 (Nat.ne_of_lt (Nat.lt_of_lt_of_le V20.lt (Nat.le_of_eq g23.symm)))) W33 (Nat.ne_of_lt (Nat.lt_of_lt_of_le V20.lt (Nat.le_of_eq g23.symm)))) W38 (Nat.ne_of_lt (Nat.lt_of_lt_of_le V20.lt (Nat.le_of_eq g23.symm)))) W43 (Nat.ne_of_lt (Nat.lt_of_lt_of_le V20.lt (Nat.le_of_eq g23.symm)))).ext E45).keep K48q (ninS (Nat.ne_of_lt (Nat.lt_of_lt_of_le (Arv.other (Arv.other (Arv.other (Arv.other (V20.ext E23) W28 (Nat.ne_of_lt (Nat.lt_of_lt_of_le V20.lt (Nat.le_of_eq g23.symm)))) W33 (Nat.ne_of_lt (Nat.lt_of_lt_of_le V20.lt (Nat.le_of_eq g23.symm)))) W38 (Nat.ne_of_lt (Nat.lt_of_lt_of_le V20.lt (Nat.le_of_eq g23.symm)))) W43 (Nat.ne_of_lt (Nat.lt_of_lt_of_le V20.lt (Nat.le_of_eq g23.symm)))).lt (Nat.le_of_eq g45.symm))) nin0)).keep K52q nin0) (((V43.ext E45).keep K48q (ninS (Nat.ne_of_lt (Nat.lt_of_lt_of_le V43.lt (Nat.le_of_eq g45.symm))) nin0)).keep K52q nin0) (ds4 he0 he1 he2 he3) (show (0 : Int32).toInt = ((0 : Nat) : Int) by decide) (by decide) hcc.1 (by decide) (by decide) (own_fin hnear (by decide))) hZ (hw _ (List.mem_of_getElem? (i := 38) rfl)) (hw _ (List.mem_of_getElem? (i := 37) rfl)) (by decide) (by decide)) (g := (mkF m 269 #[.val (.int p0), .val (.int p1), .val (.int p2), .val (.int p3), .val (.int p4), .val (.int p5), .val (.int cc), .val (.int (0 : Int32)), .val (.ref b4), .val (.ref b23), .val (.ref b45), .val (.ref gb52), .val (.int (if (0 : Int32) < cc then (0 : Int32) else cc))] [(.int (3 : Int32)), (.int cc), (.int (0 : Int32)), (.ref b23), (.ref b4), (.ref gb52)])) rfl (by rw [hml]; rfl) (argsL := [(.ref gb52), (.ref b4), (.ref b23), (.int (0 : Int32)), (.int cc), (.int (3 : Int32))]) (rest := []) (lenOf own_pd6 rfl) rfl (by show 2 * 0 + _ ≤ _; exact Nat.le_of_eq rfl) (hb hby at_269) (fun _ _ => ⟨rfl, e67q, (by decide : 6 + 0 ≤ _), (by decide : 26 + 0 ≤ _)⟩)
    dsimp only [Pt.U, Pt.locs, Pt.cells, Pt.slots] at X70 l70 y70 z70 st70 hQ70
    subst l70 y70 z70
    obtain ⟨rfl, N70q, e70q⟩ := hQ70
    have N70 := Fr.app N67 N70q
    have a71 : ∀ t, Steps p.tables e below (T70.setTop (mkF m 272 #[.val (.int p0), .val (.int p1), .val (.int p2), .val (.int p3), .val (.int p4), .val (.int p5), .val (.int cc), .val (.int (0 : Int32)), .val (.ref b4), .val (.ref b23), .val (.ref b45), .val (.ref gb52), .val (.int (if (0 : Int32) < cc then (0 : Int32) else cc))] [(.int (1 : Int32))])) t → Steps p.tables e below (s₁.setTop (entryFrame m #[(.int p0), (.int p1), (.int p2), (.int p3), (.int p4), (.int p5)] maxLocals)) t := fun t k => a69 t (st70 t k)
    have a72 : ∀ t, Steps p.tables e below (T70.setTop (mkF m 280 #[.val (.int p0), .val (.int p1), .val (.int p2), .val (.int p3), .val (.int p4), .val (.int p5), .val (.int cc), .val (.int (0 : Int32)), .val (.ref b4), .val (.ref b23), .val (.ref b45), .val (.ref gb52), .val (.int (if (0 : Int32) < cc then (0 : Int32) else cc))] [(.int (1 : Int32))])) t → Steps p.tables e below (s₁.setTop (entryFrame m #[(.int p0), (.int p1), (.int p2), (.int p3), (.int p4), (.int p5)] maxLocals)) t := by
      intro t k
      refine a71 t ?_
      show Steps p.tables e below (T70.setTop (mkF m 272 #[.val (.int p0), .val (.int p1), .val (.int p2), .val (.int p3), .val (.int p4), .val (.int p5), .val (.int cc), .val (.int (0 : Int32)), .val (.ref b4), .val (.ref b23), .val (.ref b45), .val (.ref gb52), .val (.int (if (0 : Int32) < cc then (0 : Int32) else cc))] [(.int (1 : Int32))])) _
      refine XS.ifNo X70.here hx rfl (hb hby at_272) rfl ((if0 _ _).trans (feq (by decide)).1) ?_
      refine XS.iconst X70.here hx rfl (hb hby at_275) ?_
      refine XS.goto X70.here hx rfl (pc0 := 276) (pc' := 280) rfl (hb hby at_276) (by decide) (by decide) ?_
      exact k
    obtain ⟨fs, hr, hrun, hended, hW, hsame⟩ := X70.leave (v := some (.int (1 : Int32))) (fun h => by rw [Bd.returns] at h; cases h)
    refine ⟨_, _, a72 _ ?_, hrun, hended, _, _, rfl, ?_, ⟨_, rfl⟩, hW, hsame.mono (by decide) (by decide)⟩
    · show Steps p.tables e below (T70.setTop (mkF m 280 #[.val (.int p0), .val (.int p1), .val (.int p2), .val (.int p3), .val (.int p4), .val (.int p5), .val (.int cc), .val (.int (0 : Int32)), .val (.ref b4), .val (.ref b23), .val (.ref b45), .val (.ref gb52), .val (.int (if (0 : Int32) < cc then (0 : Int32) else cc))] [(.int (1 : Int32))])) _
      exact retN X70 hx (t := .boolean) Bd.returns (by simp) (hb hby at_280) hr
    · show Q0 Z p0 p1 p2 p3 p4 p5 h0 n0 _ T70.heap _
      rw [e70q]
      exact ⟨rfl, N70⟩
  ·
    rw [el] at a50
    have a73 : ∀ t, Steps p.tables e below (T48.setTop (mkF m 116 #[.val (.int p0), .val (.int p1), .val (.int p2), .val (.int p3), .val (.int p4), .val (.int p5), .val (.int cc), .val (.int (1 : Int32)), .val (.ref b4), .val (.ref b23), .val (.ref b45), .unset, .unset] [(.int (0 : Int32)), (.ref b4), (.ref b45)])) t → Steps p.tables e below (s₁.setTop (entryFrame m #[(.int p0), (.int p1), (.int p2), (.int p3), (.int p4), (.int p5)] maxLocals)) t := by
      intro t k
      refine a50 t ?_
      show Steps p.tables e below (T48.setTop (mkF m 106 #[.val (.int p0), .val (.int p1), .val (.int p2), .val (.int p3), .val (.int p4), .val (.int p5), .val (.int cc), .val (.int (1 : Int32)), .val (.ref b4), .val (.ref b23), .val (.ref b45), .unset, .unset] [])) _
      refine XS.iload X48.here hx rfl (hb hby at_106) rfl ?_
      refine XS.ifNo X48.here hx rfl (hb hby at_108) rfl ((if0 _ _).trans (tlt (by decide)).2.2.2) ?_
      refine XS.aload X48.here hx rfl (hb hby at_111) rfl rfl ?_
      refine XS.aload X48.here hx rfl (hb hby at_113) rfl rfl ?_
      refine XS.iconst X48.here hx rfl (hb hby at_115) ?_
      exact k
    obtain ⟨cl74, Ar74, qc74, Sz74, Nn74, Hs74, Gs74⟩ := id (((Arv.other (Arv.other (Arv.other (Arv.other (V20.ext E23) W28 (Nat.ne_of_lt (Nat.lt_of_lt_of_le V20.lt (Nat.le_of_eq g23.symm)))) W33 (Nat.ne_of_lt (Nat.lt_of_lt_of_le V20.lt (Nat.le_of_eq g23.symm)))) W38 (Nat.ne_of_lt (Nat.lt_of_lt_of_le V20.lt (Nat.le_of_eq g23.symm)))) W43 (Nat.ne_of_lt (Nat.lt_of_lt_of_le V20.lt (Nat.le_of_eq g23.symm)))).ext E45).keep K48q (ninS (Nat.ne_of_lt (Nat.lt_of_lt_of_le (Arv.other (Arv.other (Arv.other (Arv.other (V20.ext E23) W28 (Nat.ne_of_lt (Nat.lt_of_lt_of_le V20.lt (Nat.le_of_eq g23.symm)))) W33 (Nat.ne_of_lt (Nat.lt_of_lt_of_le V20.lt (Nat.le_of_eq g23.symm)))) W38 (Nat.ne_of_lt (Nat.lt_of_lt_of_le V20.lt (Nat.le_of_eq g23.symm)))) W43 (Nat.ne_of_lt (Nat.lt_of_lt_of_le V20.lt (Nat.le_of_eq g23.symm)))).lt (Nat.le_of_eq g45.symm))) nin0))
    have hin74 : ¬ ((0 : Int32) < 0 ∨ cl74.slots.size ≤ ((0 : Int32)).toNatClampNeg) := inb_of Sz74 ⟨by decide, by decide⟩
    have hat74 := Hs74.at hin74 (v := (.int p0)) rfl
    have a75 : ∀ t, Steps p.tables e below (T48.setTop (mkF m 120 #[.val (.int p0), .val (.int p1), .val (.int p2), .val (.int p3), .val (.int p4), .val (.int p5), .val (.int cc), .val (.int (1 : Int32)), .val (.ref b4), .val (.ref b23), .val (.ref b45), .unset, .unset] [(.int (0 : Int32)), (.ref b23), (.int p0), (.ref b45)])) t → Steps p.tables e below (s₁.setTop (entryFrame m #[(.int p0), (.int p1), (.int p2), (.int p3), (.int p4), (.int p5)] maxLocals)) t := by
      intro t k
      refine a73 t ?_
      show Steps p.tables e below (T48.setTop (mkF m 116 #[.val (.int p0), .val (.int p1), .val (.int p2), .val (.int p3), .val (.int p4), .val (.int p5), .val (.int cc), .val (.int (1 : Int32)), .val (.ref b4), .val (.ref b23), .val (.ref b45), .unset, .unset] [(.int (0 : Int32)), (.ref b4), (.ref b45)])) _
      refine X48.iaload hx (j := (0 : Int32)) (v := (.int p0)) Ar74.1 (State.isArrayOf_alike hZ.alike Ar74.2.1) Ar74.2.2 hin74 hat74 (g := (mkF m 116 #[.val (.int p0), .val (.int p1), .val (.int p2), .val (.int p3), .val (.int p4), .val (.int p5), .val (.int cc), .val (.int (1 : Int32)), .val (.ref b4), .val (.ref b23), .val (.ref b45), .unset, .unset] [(.int (0 : Int32)), (.ref b4), (.ref b45)])) rfl rfl (hb hby at_116) _ ?_
      refine XS.aload X48.here hx rfl (hb hby at_117) rfl rfl ?_
      refine XS.iconst X48.here hx rfl (hb hby at_119) ?_
      exact k
    obtain ⟨cl76, Ar76, qc76, Sz76, Nn76, Hs76, Gs76⟩ := id ((V43.ext E45).keep K48q (ninS (Nat.ne_of_lt (Nat.lt_of_lt_of_le V43.lt (Nat.le_of_eq g45.symm))) nin0))
    have hin76 : ¬ ((0 : Int32) < 0 ∨ cl76.slots.size ≤ ((0 : Int32)).toNatClampNeg) := inb_of Sz76 ⟨by decide, by decide⟩
    have hat76 := Hs76.at hin76 (v := (.double (fv e0))) rfl
    have a77 : ∀ t, Steps p.tables e below (T48.setTop (mkF m 121 #[.val (.int p0), .val (.int p1), .val (.int p2), .val (.int p3), .val (.int p4), .val (.int p5), .val (.int cc), .val (.int (1 : Int32)), .val (.ref b4), .val (.ref b23), .val (.ref b45), .unset, .unset] [(.double (fv e0)), (.int p0), (.ref b45)])) t → Steps p.tables e below (s₁.setTop (entryFrame m #[(.int p0), (.int p1), (.int p2), (.int p3), (.int p4), (.int p5)] maxLocals)) t := by
      intro t k
      refine a75 t ?_
      show Steps p.tables e below (T48.setTop (mkF m 120 #[.val (.int p0), .val (.int p1), .val (.int p2), .val (.int p3), .val (.int p4), .val (.int p5), .val (.int cc), .val (.int (1 : Int32)), .val (.ref b4), .val (.ref b23), .val (.ref b45), .unset, .unset] [(.int (0 : Int32)), (.ref b23), (.int p0), (.ref b45)])) _
      refine X48.daload hx (j := (0 : Int32)) (v := (.double (fv e0))) Ar76.1 (State.isArrayOf_alike hZ.alike Ar76.2.1) Ar76.2.2 hin76 hat76 (g := (mkF m 120 #[.val (.int p0), .val (.int p1), .val (.int p2), .val (.int p3), .val (.int p4), .val (.int p5), .val (.int cc), .val (.int (1 : Int32)), .val (.ref b4), .val (.ref b23), .val (.ref b45), .unset, .unset] [(.int (0 : Int32)), (.ref b23), (.int p0), (.ref b45)])) rfl rfl (hb hby at_120) _ ?_
      exact k
    obtain ⟨cq78, kq78, q78a, q78b, q78c⟩ := isOf hZ rfl (A45.keep K48q)
    obtain ⟨_, _, ⟨T78, L78, k78, n78⟩, -, X78, ⟨Lc78, hQ78, l78, y78, z78⟩, st78⟩ := X48.virtualBack hx (y := (⟨"com/example/tillerfront/tillerfront/engine/Nearest", "offer", "(ID)V"⟩ : MethodName)) (z := (⟨"com/example/tillerfront/tillerfront/engine/Nearest", "offer", "(ID)V"⟩ : MethodName)) hown (mvT hZ (hw _ (List.mem_of_getElem? (i := 39) rfl))) (mvT hZ (hw _ (List.mem_of_getElem? (i := 40) rfl))) (notFace_of_selects (args := #[]) (mvT hZ (hw _ (List.mem_of_getElem? (i := 42) rfl)))) (mvT hZ (hw _ (List.mem_of_getElem? (i := 42) rfl))) (mvT hZ (hw _ (List.mem_of_getElem? (i := 41) rfl))) (by decide) (backOf (W := 0) (rmO l Z a0 hw [] b45 p0 ia48 da48 ki48 kd48 cc (0 : Int32) cN (runP (0 : Int32) cN [p0, p1, p2, p3] [e0, e1, e2, e3] 0).2.2 e0 (runP (0 : Int32) cN [p0, p1, p2, p3] [e0, e1, e2, e3] 0).1 (runP (0 : Int32) cN [p0, p1, p2, p3] [e0, e1, e2, e3] 0).2.1 fv T48.heap n0 (Nat.le_trans (Nat.le_trans (Nat.le_trans (Nat.le_trans (Nat.le_trans (Nat.le_trans (Nat.le_trans (Nat.le_trans (Nat.le_trans (Nat.le_trans (Nat.le_trans (Nat.le_trans Z0 E4.1) (Keep.of_wr W8).1) (Keep.of_wr W12).1) (Keep.of_wr W16).1) (Keep.of_wr W20).1) E23.1) (Keep.of_wr W28).1) (Keep.of_wr W33).1) (Keep.of_wr W38).1) (Keep.of_wr W43).1) E45.1) K48q.1) hf (A45.keep K48q) g_b45 GI48 GD48 FI48 FD48 FS48 PI48 PD48 (Nat.ne_of_lt (Nat.lt_of_lt_of_le F_size_b45.lt SI48)) (Nat.ne_of_lt (Nat.lt_of_lt_of_le F_size_b45.lt SD48)) nid48 hcc ⟨(show (0 : Int32).toInt = ((0 : Nat) : Int) by decide), (hinv 0).2.2.2⟩ (hinv 0).1 (hinv 0).2.1 (hinv 0).2.2.1 he0) hZ (hw _ (List.mem_of_getElem? (i := 43) rfl)) (hw _ (List.mem_of_getElem? (i := 4) rfl)) (by decide) (by decide)) q78a q78c (g := (mkF m 121 #[.val (.int p0), .val (.int p1), .val (.int p2), .val (.int p3), .val (.int p4), .val (.int p5), .val (.int cc), .val (.int (1 : Int32)), .val (.ref b4), .val (.ref b23), .val (.ref b45), .unset, .unset] [(.double (fv e0)), (.int p0), (.ref b45)])) rfl (by rw [hml]; rfl) (Steps.refl _) (argsL := [(.int p0), (.double (fv e0))]) (rest := []) (lenOf own_pd7 rfl) rfl (by show 2 * 0 + _ ≤ _; exact Nat.le_of_eq rfl) (hb hby at_121) (fun _ _ => ⟨rfl, rfl, (by decide : 5 + 0 ≤ _), (by decide : 21 + 0 ≤ _)⟩)
    dsimp only [Pt.U, Pt.locs, Pt.cells, Pt.slots] at X78 l78 y78 z78 st78 hQ78
    subst l78 y78 z78
    obtain ⟨rfl, N78q, K78q, FI78, FD78, sq78, FS78, hq78, AI78, AD78⟩ := hQ78
    have N78 := Fr.app N48 N78q
    have KK78 : Keep h0 T78.heap [] := Keep.trans KK48 K78q (allS (Or.inr sz_b45) (allS (Or.inr (Nat.le_trans (K45).1 SI48)) (allS (Or.inr (Nat.le_trans (K45).1 SD48)) all0)))
    have PI78 : Arv Z T78.heap ia48 ki48 .int cc ((runP (0 : Int32) cN [p0, p1, p2, p3] [e0, e1, e2, e3] 1).1.map Value.int) (.int (0 : Int32)) := AI78
    have PD78 : Arv Z T78.heap da48 kd48 .double cc ((runP (0 : Int32) cN [p0, p1, p2, p3] [e0, e1, e2, e3] 1).2.1.map (fd fv)) (.double (0 : UInt64)) := AD78
    have hz78 : sq78.toInt = (((runP (0 : Int32) cN [p0, p1, p2, p3] [e0, e1, e2, e3] 1).2.2 : Nat) : Int) := hq78
    have a79 : ∀ t, Steps p.tables e below (T78.setTop (mkF m 124 #[.val (.int p0), .val (.int p1), .val (.int p2), .val (.int p3), .val (.int p4), .val (.int p5), .val (.int cc), .val (.int (1 : Int32)), .val (.ref b4), .val (.ref b23), .val (.ref b45), .unset, .unset] [])) t → Steps p.tables e below (s₁.setTop (entryFrame m #[(.int p0), (.int p1), (.int p2), (.int p3), (.int p4), (.int p5)] maxLocals)) t := fun t k => a77 t (st78.trans k)
    have a80 : ∀ t, Steps p.tables e below (T78.setTop (mkF m 183 #[.val (.int p0), .val (.int p1), .val (.int p2), .val (.int p3), .val (.int p4), .val (.int p5), .val (.int cc), .val (.int (1 : Int32)), .val (.ref b4), .val (.ref b23), .val (.ref b45), .unset, .unset] [(.ref b45)])) t → Steps p.tables e below (s₁.setTop (entryFrame m #[(.int p0), (.int p1), (.int p2), (.int p3), (.int p4), (.int p5)] maxLocals)) t := by
      intro t k
      refine a79 t ?_
      show Steps p.tables e below (T78.setTop (mkF m 124 #[.val (.int p0), .val (.int p1), .val (.int p2), .val (.int p3), .val (.int p4), .val (.int p5), .val (.int cc), .val (.int (1 : Int32)), .val (.ref b4), .val (.ref b23), .val (.ref b45), .unset, .unset] [])) _
      refine XS.iload X78.here hx rfl (hb hby at_124) rfl ?_
      refine XS.iconst X78.here hx rfl (hb hby at_126) ?_
      refine XS.icmpYes X78.here hx rfl (pc0 := 127) (pc' := 143) rfl (hb hby at_127) rfl (flt (by decide)).2.2.2 (by decide) (by decide) ?_
      refine XS.iload X78.here hx rfl (hb hby at_143) rfl ?_
      refine XS.iconst X78.here hx rfl (hb hby at_145) ?_
      refine XS.icmpYes X78.here hx rfl (pc0 := 146) (pc' := 162) rfl (hb hby at_146) rfl (flt (by decide)).2.2.2 (by decide) (by decide) ?_
      refine XS.iload X78.here hx rfl (hb hby at_162) rfl ?_
      refine XS.iconst X78.here hx rfl (hb hby at_164) ?_
      refine XS.icmpYes X78.here hx rfl (pc0 := 165) (pc' := 181) rfl (hb hby at_165) rfl (flt (by decide)).2.2.2 (by decide) (by decide) ?_
      refine XS.aload X78.here hx rfl (hb hby at_181) rfl rfl ?_
      exact k
    obtain ⟨cq81, kq81, q81a, q81b, q81c⟩ := isOf hZ rfl ((A45.keep K48q).keep K78q)
    obtain ⟨_, _, ⟨T81, L81, k81, n81⟩, -, X81, ⟨Lc81, hQ81, l81, y81, z81⟩, st81⟩ := X78.virtualBack hx (y := (⟨"com/example/tillerfront/tillerfront/engine/Nearest", "indices", "()[I"⟩ : MethodName)) (z := (⟨"com/example/tillerfront/tillerfront/engine/Nearest", "indices", "()[I"⟩ : MethodName)) hown (mvT hZ (hw _ (List.mem_of_getElem? (i := 15) rfl))) (mvT hZ (hw _ (List.mem_of_getElem? (i := 16) rfl))) (notFace_of_selects (args := #[]) (mvT hZ (hw _ (List.mem_of_getElem? (i := 18) rfl)))) (mvT hZ (hw _ (List.mem_of_getElem? (i := 18) rfl))) (mvT hZ (hw _ (List.mem_of_getElem? (i := 17) rfl))) (by decide) (backOf (W := 0) (rmIn l Z a0 hw [] b45 ia48 ki48 cc sq78 cN (runP (0 : Int32) cN [p0, p1, p2, p3] [e0, e1, e2, e3] 1).2.2 (runP (0 : Int32) cN [p0, p1, p2, p3] [e0, e1, e2, e3] 1).1 T78.heap n0 (Nat.le_trans (Nat.le_trans (Nat.le_trans (Nat.le_trans (Nat.le_trans (Nat.le_trans (Nat.le_trans (Nat.le_trans (Nat.le_trans (Nat.le_trans (Nat.le_trans (Nat.le_trans (Nat.le_trans Z0 E4.1) (Keep.of_wr W8).1) (Keep.of_wr W12).1) (Keep.of_wr W16).1) (Keep.of_wr W20).1) E23.1) (Keep.of_wr W28).1) (Keep.of_wr W33).1) (Keep.of_wr W38).1) (Keep.of_wr W43).1) E45.1) K48q.1) K78q.1) FI78 FS78 PI78 (XI48.keep K78q) hcc ⟨hz78, (hinv 1).2.2.2⟩ (hinv 1).1) hZ (hw _ (List.mem_of_getElem? (i := 19) rfl)) (hw _ (List.mem_of_getElem? (i := 4) rfl)) (by decide) (by decide)) q81a q81c (g := (mkF m 183 #[.val (.int p0), .val (.int p1), .val (.int p2), .val (.int p3), .val (.int p4), .val (.int p5), .val (.int cc), .val (.int (1 : Int32)), .val (.ref b4), .val (.ref b23), .val (.ref b45), .unset, .unset] [(.ref b45)])) rfl (by rw [hml]; rfl) (Steps.refl _) (argsL := []) (rest := []) (lenOf own_pd5 rfl) rfl (by show 2 * 0 + _ ≤ _; exact Nat.le_of_eq rfl) (hb hby at_183) (fun _ _ => ⟨rfl, rfl, (by decide : 5 + 1 ≤ _), (by decide : 21 + 5 ≤ _)⟩)
    dsimp only [Pt.U, Pt.locs, Pt.cells, Pt.slots] at X81 l81 y81 z81 st81 hQ81
    subst l81 y81 z81
    obtain ⟨gb81, kg81, rfl, N81q, K81q, VG81⟩ := hQ81
    have N81 := Fr.app N78 N81q
    have KK81 : Keep h0 T81.heap [] := Keep.trans KK78 K81q all0
    have a82 : ∀ t, Steps p.tables e below (T81.setTop (mkF m 186 #[.val (.int p0), .val (.int p1), .val (.int p2), .val (.int p3), .val (.int p4), .val (.int p5), .val (.int cc), .val (.int (1 : Int32)), .val (.ref b4), .val (.ref b23), .val (.ref b45), .unset, .unset] [(.ref gb81)])) t → Steps p.tables e below (s₁.setTop (entryFrame m #[(.int p0), (.int p1), (.int p2), (.int p3), (.int p4), (.int p5)] maxLocals)) t := fun t k => a80 t (st81.trans k)
    have a83 : ∀ t, Steps p.tables e below (T81.setTop (mkF m 188 #[.val (.int p0), .val (.int p1), .val (.int p2), .val (.int p3), .val (.int p4), .val (.int p5), .val (.int cc), .val (.int (1 : Int32)), .val (.ref b4), .val (.ref b23), .val (.ref b45), .val (.ref gb81), .unset] [])) t → Steps p.tables e below (s₁.setTop (entryFrame m #[(.int p0), (.int p1), (.int p2), (.int p3), (.int p4), (.int p5)] maxLocals)) t := by
      intro t k
      refine a82 t ?_
      show Steps p.tables e below (T81.setTop (mkF m 186 #[.val (.int p0), .val (.int p1), .val (.int p2), .val (.int p3), .val (.int p4), .val (.int p5), .val (.int cc), .val (.int (1 : Int32)), .val (.ref b4), .val (.ref b23), .val (.ref b45), .unset, .unset] [(.ref gb81)])) _
      refine XS.astore X81.here hx rfl (hb hby at_186) rfl rfl (l' := #[.val (.int p0), .val (.int p1), .val (.int p2), .val (.int p3), .val (.int p4), .val (.int p5), .val (.int cc), .val (.int (1 : Int32)), .val (.ref b4), .val (.ref b23), .val (.ref b45), .val (.ref gb81), .unset]) rfl ?_
      exact k
    have hnear := nearL p0 p1 p2 p3 (0 : Int32) (n := 1) hcc.2 (by decide) he0 he1 he2 he3
    have a84 : ∀ t, Steps p.tables e below (T81.setTop (mkF m 192 #[.val (.int p0), .val (.int p1), .val (.int p2), .val (.int p3), .val (.int p4), .val (.int p5), .val (.int cc), .val (.int (1 : Int32)), .val (.ref b4), .val (.ref b23), .val (.ref b45), .val (.ref gb81), .unset] [(.int (1 : Int32)), (.int cc)])) t → Steps p.tables e below (s₁.setTop (entryFrame m #[(.int p0), (.int p1), (.int p2), (.int p3), (.int p4), (.int p5)] maxLocals)) t := by
      intro t k
      refine a83 t ?_
      show Steps p.tables e below (T81.setTop (mkF m 188 #[.val (.int p0), .val (.int p1), .val (.int p2), .val (.int p3), .val (.int p4), .val (.int p5), .val (.int cc), .val (.int (1 : Int32)), .val (.ref b4), .val (.ref b23), .val (.ref b45), .val (.ref gb81), .unset] [])) _
      refine XS.iload X81.here hx rfl (hb hby at_188) rfl ?_
      refine XS.iload X81.here hx rfl (hb hby at_190) rfl ?_
      exact k
    obtain ⟨_, _, ⟨T85, L85, k85, n85⟩, -, X85, ⟨Lc85, hQ85, l85, y85, z85⟩, st85⟩ := Jvm.LawKit.callS X81 hx (y := (⟨"java/lang/Math", "min", "(II)I"⟩ : MethodName)) hown (mvT hZ (hw _ (List.mem_of_getElem? (i := 34) rfl))) (mvT hZ (hw _ (List.mem_of_getElem? (i := 27) rfl))) (mvT hZ (hw _ (List.mem_of_getElem? (i := 28) rfl))) (mvT hZ (hw _ (List.mem_of_getElem? (i := 29) rfl))) (by decide) (backOf (W := 0) (rmMin l Z a0 hw [] cc (1 : Int32) T81.heap n0 (Nat.le_trans (Nat.le_trans (Nat.le_trans (Nat.le_trans (Nat.le_trans (Nat.le_trans (Nat.le_trans (Nat.le_trans (Nat.le_trans (Nat.le_trans (Nat.le_trans (Nat.le_trans (Nat.le_trans (Nat.le_trans Z0 E4.1) (Keep.of_wr W8).1) (Keep.of_wr W12).1) (Keep.of_wr W16).1) (Keep.of_wr W20).1) E23.1) (Keep.of_wr W28).1) (Keep.of_wr W33).1) (Keep.of_wr W38).1) (Keep.of_wr W43).1) E45.1) K48q.1) K78q.1) K81q.1) ) hZ (hw _ (List.mem_of_getElem? (i := 29) rfl)) (hw _ (List.mem_of_getElem? (i := 28) rfl)) (by decide) (by decide)) (g := (mkF m 192 #[.val (.int p0), .val (.int p1), .val (.int p2), .val (.int p3), .val (.int p4), .val (.int p5), .val (.int cc), .val (.int (1 : Int32)), .val (.ref b4), .val (.ref b23), .val (.ref b45), .val (.ref gb81), .unset] [(.int (1 : Int32)), (.int cc)])) rfl (by rw [hml]; rfl) (argsL := [(.int cc), (.int (1 : Int32))]) (rest := []) (lenOf own_pd0 rfl) rfl (by show 2 * 0 + _ ≤ _; exact Nat.le_of_eq rfl) (hb hby at_192) (fun _ _ => ⟨rfl, rfl, (by decide : 6 + 0 ≤ _), (by decide : 26 + 0 ≤ _)⟩)
    dsimp only [Pt.U, Pt.locs, Pt.cells, Pt.slots] at X85 l85 y85 z85 st85 hQ85
    subst l85 y85 z85
    obtain ⟨rfl, N85q, e85q⟩ := hQ85
    have N85 := Fr.app N81 N85q
    have a86 : ∀ t, Steps p.tables e below (T85.setTop (mkF m 195 #[.val (.int p0), .val (.int p1), .val (.int p2), .val (.int p3), .val (.int p4), .val (.int p5), .val (.int cc), .val (.int (1 : Int32)), .val (.ref b4), .val (.ref b23), .val (.ref b45), .val (.ref gb81), .unset] [(.int (if (1 : Int32) < cc then (1 : Int32) else cc))])) t → Steps p.tables e below (s₁.setTop (entryFrame m #[(.int p0), (.int p1), (.int p2), (.int p3), (.int p4), (.int p5)] maxLocals)) t := fun t k => a84 t (st85 t k)
    have a87 : ∀ t, Steps p.tables e below (T85.setTop (mkF m 199 #[.val (.int p0), .val (.int p1), .val (.int p2), .val (.int p3), .val (.int p4), .val (.int p5), .val (.int cc), .val (.int (1 : Int32)), .val (.ref b4), .val (.ref b23), .val (.ref b45), .val (.ref gb81), .val (.int (if (1 : Int32) < cc then (1 : Int32) else cc))] [(.ref gb81)])) t → Steps p.tables e below (s₁.setTop (entryFrame m #[(.int p0), (.int p1), (.int p2), (.int p3), (.int p4), (.int p5)] maxLocals)) t := by
      intro t k
      refine a86 t ?_
      show Steps p.tables e below (T85.setTop (mkF m 195 #[.val (.int p0), .val (.int p1), .val (.int p2), .val (.int p3), .val (.int p4), .val (.int p5), .val (.int cc), .val (.int (1 : Int32)), .val (.ref b4), .val (.ref b23), .val (.ref b45), .val (.ref gb81), .unset] [(.int (if (1 : Int32) < cc then (1 : Int32) else cc))])) _
      refine XS.istore X85.here hx rfl (hb hby at_195) rfl (l' := #[.val (.int p0), .val (.int p1), .val (.int p2), .val (.int p3), .val (.int p4), .val (.int p5), .val (.int cc), .val (.int (1 : Int32)), .val (.ref b4), .val (.ref b23), .val (.ref b45), .val (.ref gb81), .val (.int (if (1 : Int32) < cc then (1 : Int32) else cc))]) rfl ?_
      refine XS.aload X85.here hx rfl (hb hby at_197) rfl rfl ?_
      exact k
    obtain ⟨cl88, Ar88, qc88, Sz88, Nn88, Hs88, Gs88⟩ := id VG81
    have a89 : ∀ t, Steps p.tables e below (T85.setTop (mkF m 218 #[.val (.int p0), .val (.int p1), .val (.int p2), .val (.int p3), .val (.int p4), .val (.int p5), .val (.int cc), .val (.int (1 : Int32)), .val (.ref b4), .val (.ref b23), .val (.ref b45), .val (.ref gb81), .val (.int (if (1 : Int32) < cc then (1 : Int32) else cc))] [(.int (0 : Int32)), (.int cc), (.int (1 : Int32)), (.ref b23), (.ref b4), (.ref gb81)])) t → Steps p.tables e below (s₁.setTop (entryFrame m #[(.int p0), (.int p1), (.int p2), (.int p3), (.int p4), (.int p5)] maxLocals)) t := by
      intro t k
      refine a87 t ?_
      show Steps p.tables e below (T85.setTop (mkF m 199 #[.val (.int p0), .val (.int p1), .val (.int p2), .val (.int p3), .val (.int p4), .val (.int p5), .val (.int cc), .val (.int (1 : Int32)), .val (.ref b4), .val (.ref b23), .val (.ref b45), .val (.ref gb81), .val (.int (if (1 : Int32) < cc then (1 : Int32) else cc))] [(.ref gb81)])) _
      refine X85.arraylength hx (by rw [e85q]; exact Ar88.1) (State.isArrayOf_alike hZ.alike Ar88.2.1) (g := (mkF m 199 #[.val (.int p0), .val (.int p1), .val (.int p2), .val (.int p3), .val (.int p4), .val (.int p5), .val (.int cc), .val (.int (1 : Int32)), .val (.ref b4), .val (.ref b23), .val (.ref b45), .val (.ref gb81), .val (.int (if (1 : Int32) < cc then (1 : Int32) else cc))] [(.ref gb81)])) rfl rfl (hb hby at_199) _ ?_
      rw [len_of Sz88 Nn88]
      refine XS.iload X85.here hx rfl (hb hby at_200) rfl ?_
      refine XS.icmpYes X85.here hx rfl (pc0 := 202) (pc' := 207) rfl (hb hby at_202) rfl (teq (own_len hcc.1 (show (1 : Int32).toInt = ((1 : Nat) : Int) by decide) (by rw [← hnear.1]; exact hz78))).1 (by decide) (by decide) ?_
      refine XS.aload X85.here hx rfl (hb hby at_207) rfl rfl ?_
      refine XS.aload X85.here hx rfl (hb hby at_209) rfl rfl ?_
      refine XS.aload X85.here hx rfl (hb hby at_211) rfl rfl ?_
      refine XS.iload X85.here hx rfl (hb hby at_213) rfl ?_
      refine XS.iload X85.here hx rfl (hb hby at_215) rfl ?_
      refine XS.iconst X85.here hx rfl (hb hby at_217) ?_
      exact k
    obtain ⟨_, _, ⟨T90, L90, k90, n90⟩, -, X90, ⟨Lc90, hQ90, l90, y90, z90⟩, st90⟩ := Jvm.LawKit.callS X85 hx (y := (⟨"com/example/tillerfront/tillerfront/engine/NearestOfferPinLaw", "ok", "([I[I[DIII)Z"⟩ : MethodName)) hown (mvT hZ (hw _ (List.mem_of_getElem? (i := 35) rfl))) (mvT hZ (hw _ (List.mem_of_getElem? (i := 36) rfl))) (mvT hZ (hw _ (List.mem_of_getElem? (i := 37) rfl))) (mvT hZ (hw _ (List.mem_of_getElem? (i := 38) rfl))) (by decide) (backOf (W := 0) (rmOk l Z a0 hw [] gb81 b4 b23 (1 : Int32) cc (0 : Int32) kg81 kk4 kk23 sq78 ((runP (0 : Int32) cN [p0, p1, p2, p3] [e0, e1, e2, e3] 1).1.take (runP (0 : Int32) cN [p0, p1, p2, p3] [e0, e1, e2, e3] 1).2.2) [p0, p1, p2, p3] [e0, e1, e2, e3] (runP (0 : Int32) cN [p0, p1, p2, p3] [e0, e1, e2, e3] 1).2.2 1 cN 0 fv T81.heap n0 (Nat.le_trans (Nat.le_trans (Nat.le_trans (Nat.le_trans (Nat.le_trans (Nat.le_trans (Nat.le_trans (Nat.le_trans (Nat.le_trans (Nat.le_trans (Nat.le_trans (Nat.le_trans (Nat.le_trans (Nat.le_trans Z0 E4.1) (Keep.of_wr W8).1) (Keep.of_wr W12).1) (Keep.of_wr W16).1) (Keep.of_wr W20).1) E23.1) (Keep.of_wr W28).1) (Keep.of_wr W33).1) (Keep.of_wr W38).1) (Keep.of_wr W43).1) E45.1) K48q.1) K78q.1) K81q.1) hf VG81 (((((Arv.other (Arv.other (Arv.other (Arv.other (V20.ext E23) W28 (Nat.ne_of_lt (Nat.lt_of_lt_of_le V20.lt (Nat.le_of_eq g23.symm)))) W33 (Nat.ne_of_lt (Nat.lt_of_lt_of_le V20.lt (Nat.le_of_eq g23.symm)))) W38 (Nat.ne_of_lt (Nat.lt_of_lt_of_le V20.lt (Nat.le_of_eq g23.symm)))) W43 (Nat.ne_of_lt (Nat.lt_of_lt_of_le V20.lt (Nat.le_of_eq g23.symm)))).ext E45).keep K48q (ninS (Nat.ne_of_lt (Nat.lt_of_lt_of_le (Arv.other (Arv.other (Arv.other (Arv.other (V20.ext E23) W28 (Nat.ne_of_lt (Nat.lt_of_lt_of_le V20.lt (Nat.le_of_eq g23.symm)))) W33 (Nat.ne_of_lt (Nat.lt_of_lt_of_le V20.lt (Nat.le_of_eq g23.symm)))) W38 (Nat.ne_of_lt (Nat.lt_of_lt_of_le V20.lt (Nat.le_of_eq g23.symm)))) W43 (Nat.ne_of_lt (Nat.lt_of_lt_of_le V20.lt (Nat.le_of_eq g23.symm)))).lt (Nat.le_of_eq g45.symm))) nin0)).keep K78q (ninS (Nat.ne_of_lt (Nat.lt_of_lt_of_le (Arv.other (Arv.other (Arv.other (Arv.other (V20.ext E23) W28 (Nat.ne_of_lt (Nat.lt_of_lt_of_le V20.lt (Nat.le_of_eq g23.symm)))) W33 (Nat.ne_of_lt (Nat.lt_of_lt_of_le V20.lt (Nat.le_of_eq g23.symm)))) W38 (Nat.ne_of_lt (Nat.lt_of_lt_of_le V20.lt (Nat.le_of_eq g23.symm)))) W43 (Nat.ne_of_lt (Nat.lt_of_lt_of_le V20.lt (Nat.le_of_eq g23.symm)))).lt (Nat.le_of_eq g45.symm))) (ninS (Nat.ne_of_lt (Nat.lt_of_lt_of_le ((Arv.other (Arv.other (Arv.other (Arv.other (V20.ext E23) W28 (Nat.ne_of_lt (Nat.lt_of_lt_of_le V20.lt (Nat.le_of_eq g23.symm)))) W33 (Nat.ne_of_lt (Nat.lt_of_lt_of_le V20.lt (Nat.le_of_eq g23.symm)))) W38 (Nat.ne_of_lt (Nat.lt_of_lt_of_le V20.lt (Nat.le_of_eq g23.symm)))) W43 (Nat.ne_of_lt (Nat.lt_of_lt_of_le V20.lt (Nat.le_of_eq g23.symm)))).ext E45).lt SI48)) (ninS (Nat.ne_of_lt (Nat.lt_of_lt_of_le ((Arv.other (Arv.other (Arv.other (Arv.other (V20.ext E23) W28 (Nat.ne_of_lt (Nat.lt_of_lt_of_le V20.lt (Nat.le_of_eq g23.symm)))) W33 (Nat.ne_of_lt (Nat.lt_of_lt_of_le V20.lt (Nat.le_of_eq g23.symm)))) W38 (Nat.ne_of_lt (Nat.lt_of_lt_of_le V20.lt (Nat.le_of_eq g23.symm)))) W43 (Nat.ne_of_lt (Nat.lt_of_lt_of_le V20.lt (Nat.le_of_eq g23.symm)))).ext E45).lt SD48)) nin0)))).keep K81q nin0) ((((V43.ext E45).keep K48q (ninS (Nat.ne_of_lt (Nat.lt_of_lt_of_le V43.lt (Nat.le_of_eq g45.symm))) nin0)).keep K78q (ninS (Nat.ne_of_lt (Nat.lt_of_lt_of_le V43.lt (Nat.le_of_eq g45.symm))) (ninS (Nat.ne_of_lt (Nat.lt_of_lt_of_le (V43.ext E45).lt SI48)) (ninS (Nat.ne_of_lt (Nat.lt_of_lt_of_le (V43.ext E45).lt SD48)) nin0)))).keep K81q nin0) (ds4 he0 he1 he2 he3) hz78 (by decide) hcc.1 (by decide) (by decide) (own_fin hnear (by decide))) hZ (hw _ (List.mem_of_getElem? (i := 38) rfl)) (hw _ (List.mem_of_getElem? (i := 37) rfl)) (by decide) (by decide)) (g := (mkF m 218 #[.val (.int p0), .val (.int p1), .val (.int p2), .val (.int p3), .val (.int p4), .val (.int p5), .val (.int cc), .val (.int (1 : Int32)), .val (.ref b4), .val (.ref b23), .val (.ref b45), .val (.ref gb81), .val (.int (if (1 : Int32) < cc then (1 : Int32) else cc))] [(.int (0 : Int32)), (.int cc), (.int (1 : Int32)), (.ref b23), (.ref b4), (.ref gb81)])) rfl (by rw [hml]; rfl) (argsL := [(.ref gb81), (.ref b4), (.ref b23), (.int (1 : Int32)), (.int cc), (.int (0 : Int32))]) (rest := []) (lenOf own_pd6 rfl) rfl (by show 2 * 0 + _ ≤ _; exact Nat.le_of_eq rfl) (hb hby at_218) (fun _ _ => ⟨rfl, e85q, (by decide : 6 + 0 ≤ _), (by decide : 26 + 0 ≤ _)⟩)
    dsimp only [Pt.U, Pt.locs, Pt.cells, Pt.slots] at X90 l90 y90 z90 st90 hQ90
    subst l90 y90 z90
    obtain ⟨rfl, N90q, e90q⟩ := hQ90
    have N90 := Fr.app N85 N90q
    have a91 : ∀ t, Steps p.tables e below (T90.setTop (mkF m 221 #[.val (.int p0), .val (.int p1), .val (.int p2), .val (.int p3), .val (.int p4), .val (.int p5), .val (.int cc), .val (.int (1 : Int32)), .val (.ref b4), .val (.ref b23), .val (.ref b45), .val (.ref gb81), .val (.int (if (1 : Int32) < cc then (1 : Int32) else cc))] [(.int (1 : Int32))])) t → Steps p.tables e below (s₁.setTop (entryFrame m #[(.int p0), (.int p1), (.int p2), (.int p3), (.int p4), (.int p5)] maxLocals)) t := fun t k => a89 t (st90 t k)
    have a92 : ∀ t, Steps p.tables e below (T90.setTop (mkF m 235 #[.val (.int p0), .val (.int p1), .val (.int p2), .val (.int p3), .val (.int p4), .val (.int p5), .val (.int cc), .val (.int (1 : Int32)), .val (.ref b4), .val (.ref b23), .val (.ref b45), .val (.ref gb81), .val (.int (if (1 : Int32) < cc then (1 : Int32) else cc))] [(.int (1 : Int32)), (.int cc), (.int (1 : Int32)), (.ref b23), (.ref b4), (.ref gb81)])) t → Steps p.tables e below (s₁.setTop (entryFrame m #[(.int p0), (.int p1), (.int p2), (.int p3), (.int p4), (.int p5)] maxLocals)) t := by
      intro t k
      refine a91 t ?_
      show Steps p.tables e below (T90.setTop (mkF m 221 #[.val (.int p0), .val (.int p1), .val (.int p2), .val (.int p3), .val (.int p4), .val (.int p5), .val (.int cc), .val (.int (1 : Int32)), .val (.ref b4), .val (.ref b23), .val (.ref b45), .val (.ref gb81), .val (.int (if (1 : Int32) < cc then (1 : Int32) else cc))] [(.int (1 : Int32))])) _
      refine XS.ifNo X90.here hx rfl (hb hby at_221) rfl ((if0 _ _).trans (feq (by decide)).1) ?_
      refine XS.aload X90.here hx rfl (hb hby at_224) rfl rfl ?_
      refine XS.aload X90.here hx rfl (hb hby at_226) rfl rfl ?_
      refine XS.aload X90.here hx rfl (hb hby at_228) rfl rfl ?_
      refine XS.iload X90.here hx rfl (hb hby at_230) rfl ?_
      refine XS.iload X90.here hx rfl (hb hby at_232) rfl ?_
      refine XS.iconst X90.here hx rfl (hb hby at_234) ?_
      exact k
    obtain ⟨_, _, ⟨T93, L93, k93, n93⟩, -, X93, ⟨Lc93, hQ93, l93, y93, z93⟩, st93⟩ := Jvm.LawKit.callS X90 hx (y := (⟨"com/example/tillerfront/tillerfront/engine/NearestOfferPinLaw", "ok", "([I[I[DIII)Z"⟩ : MethodName)) hown (mvT hZ (hw _ (List.mem_of_getElem? (i := 35) rfl))) (mvT hZ (hw _ (List.mem_of_getElem? (i := 36) rfl))) (mvT hZ (hw _ (List.mem_of_getElem? (i := 37) rfl))) (mvT hZ (hw _ (List.mem_of_getElem? (i := 38) rfl))) (by decide) (backOf (W := 0) (rmOk l Z a0 hw [] gb81 b4 b23 (1 : Int32) cc (1 : Int32) kg81 kk4 kk23 sq78 ((runP (0 : Int32) cN [p0, p1, p2, p3] [e0, e1, e2, e3] 1).1.take (runP (0 : Int32) cN [p0, p1, p2, p3] [e0, e1, e2, e3] 1).2.2) [p0, p1, p2, p3] [e0, e1, e2, e3] (runP (0 : Int32) cN [p0, p1, p2, p3] [e0, e1, e2, e3] 1).2.2 1 cN 1 fv T81.heap n0 (Nat.le_trans (Nat.le_trans (Nat.le_trans (Nat.le_trans (Nat.le_trans (Nat.le_trans (Nat.le_trans (Nat.le_trans (Nat.le_trans (Nat.le_trans (Nat.le_trans (Nat.le_trans (Nat.le_trans (Nat.le_trans Z0 E4.1) (Keep.of_wr W8).1) (Keep.of_wr W12).1) (Keep.of_wr W16).1) (Keep.of_wr W20).1) E23.1) (Keep.of_wr W28).1) (Keep.of_wr W33).1) (Keep.of_wr W38).1) (Keep.of_wr W43).1) E45.1) K48q.1) K78q.1) K81q.1) hf VG81 (((((Arv.other (Arv.other (Arv.other (Arv.other (V20.ext E23) W28 (Nat.ne_of_lt (Nat.lt_of_lt_of_le V20.lt (Nat.le_of_eq g23.symm)))) W33 (Nat.ne_of_lt (Nat.lt_of_lt_of_le V20.lt (Nat.le_of_eq g23.symm)))) W38 (Nat.ne_of_lt (Nat.lt_of_lt_of_le V20.lt (Nat.le_of_eq g23.symm)))) W43 (Nat.ne_of_lt (Nat.lt_of_lt_of_le V20.lt (Nat.le_of_eq g23.symm)))).ext E45).keep K48q (ninS (Nat.ne_of_lt (Nat.lt_of_lt_of_le (Arv.other (Arv.other (Arv.other (Arv.other (V20.ext E23) W28 (Nat.ne_of_lt (Nat.lt_of_lt_of_le V20.lt (Nat.le_of_eq g23.symm)))) W33 (Nat.ne_of_lt (Nat.lt_of_lt_of_le V20.lt (Nat.le_of_eq g23.symm)))) W38 (Nat.ne_of_lt (Nat.lt_of_lt_of_le V20.lt (Nat.le_of_eq g23.symm)))) W43 (Nat.ne_of_lt (Nat.lt_of_lt_of_le V20.lt (Nat.le_of_eq g23.symm)))).lt (Nat.le_of_eq g45.symm))) nin0)).keep K78q (ninS (Nat.ne_of_lt (Nat.lt_of_lt_of_le (Arv.other (Arv.other (Arv.other (Arv.other (V20.ext E23) W28 (Nat.ne_of_lt (Nat.lt_of_lt_of_le V20.lt (Nat.le_of_eq g23.symm)))) W33 (Nat.ne_of_lt (Nat.lt_of_lt_of_le V20.lt (Nat.le_of_eq g23.symm)))) W38 (Nat.ne_of_lt (Nat.lt_of_lt_of_le V20.lt (Nat.le_of_eq g23.symm)))) W43 (Nat.ne_of_lt (Nat.lt_of_lt_of_le V20.lt (Nat.le_of_eq g23.symm)))).lt (Nat.le_of_eq g45.symm))) (ninS (Nat.ne_of_lt (Nat.lt_of_lt_of_le ((Arv.other (Arv.other (Arv.other (Arv.other (V20.ext E23) W28 (Nat.ne_of_lt (Nat.lt_of_lt_of_le V20.lt (Nat.le_of_eq g23.symm)))) W33 (Nat.ne_of_lt (Nat.lt_of_lt_of_le V20.lt (Nat.le_of_eq g23.symm)))) W38 (Nat.ne_of_lt (Nat.lt_of_lt_of_le V20.lt (Nat.le_of_eq g23.symm)))) W43 (Nat.ne_of_lt (Nat.lt_of_lt_of_le V20.lt (Nat.le_of_eq g23.symm)))).ext E45).lt SI48)) (ninS (Nat.ne_of_lt (Nat.lt_of_lt_of_le ((Arv.other (Arv.other (Arv.other (Arv.other (V20.ext E23) W28 (Nat.ne_of_lt (Nat.lt_of_lt_of_le V20.lt (Nat.le_of_eq g23.symm)))) W33 (Nat.ne_of_lt (Nat.lt_of_lt_of_le V20.lt (Nat.le_of_eq g23.symm)))) W38 (Nat.ne_of_lt (Nat.lt_of_lt_of_le V20.lt (Nat.le_of_eq g23.symm)))) W43 (Nat.ne_of_lt (Nat.lt_of_lt_of_le V20.lt (Nat.le_of_eq g23.symm)))).ext E45).lt SD48)) nin0)))).keep K81q nin0) ((((V43.ext E45).keep K48q (ninS (Nat.ne_of_lt (Nat.lt_of_lt_of_le V43.lt (Nat.le_of_eq g45.symm))) nin0)).keep K78q (ninS (Nat.ne_of_lt (Nat.lt_of_lt_of_le V43.lt (Nat.le_of_eq g45.symm))) (ninS (Nat.ne_of_lt (Nat.lt_of_lt_of_le (V43.ext E45).lt SI48)) (ninS (Nat.ne_of_lt (Nat.lt_of_lt_of_le (V43.ext E45).lt SD48)) nin0)))).keep K81q nin0) (ds4 he0 he1 he2 he3) hz78 (by decide) hcc.1 (by decide) (by decide) (own_fin hnear (by decide))) hZ (hw _ (List.mem_of_getElem? (i := 38) rfl)) (hw _ (List.mem_of_getElem? (i := 37) rfl)) (by decide) (by decide)) (g := (mkF m 235 #[.val (.int p0), .val (.int p1), .val (.int p2), .val (.int p3), .val (.int p4), .val (.int p5), .val (.int cc), .val (.int (1 : Int32)), .val (.ref b4), .val (.ref b23), .val (.ref b45), .val (.ref gb81), .val (.int (if (1 : Int32) < cc then (1 : Int32) else cc))] [(.int (1 : Int32)), (.int cc), (.int (1 : Int32)), (.ref b23), (.ref b4), (.ref gb81)])) rfl (by rw [hml]; rfl) (argsL := [(.ref gb81), (.ref b4), (.ref b23), (.int (1 : Int32)), (.int cc), (.int (1 : Int32))]) (rest := []) (lenOf own_pd6 rfl) rfl (by show 2 * 0 + _ ≤ _; exact Nat.le_of_eq rfl) (hb hby at_235) (fun _ _ => ⟨rfl, e90q, (by decide : 6 + 0 ≤ _), (by decide : 26 + 0 ≤ _)⟩)
    dsimp only [Pt.U, Pt.locs, Pt.cells, Pt.slots] at X93 l93 y93 z93 st93 hQ93
    subst l93 y93 z93
    obtain ⟨rfl, N93q, e93q⟩ := hQ93
    have N93 := Fr.app N90 N93q
    have a94 : ∀ t, Steps p.tables e below (T93.setTop (mkF m 238 #[.val (.int p0), .val (.int p1), .val (.int p2), .val (.int p3), .val (.int p4), .val (.int p5), .val (.int cc), .val (.int (1 : Int32)), .val (.ref b4), .val (.ref b23), .val (.ref b45), .val (.ref gb81), .val (.int (if (1 : Int32) < cc then (1 : Int32) else cc))] [(.int (1 : Int32))])) t → Steps p.tables e below (s₁.setTop (entryFrame m #[(.int p0), (.int p1), (.int p2), (.int p3), (.int p4), (.int p5)] maxLocals)) t := fun t k => a92 t (st93 t k)
    have a95 : ∀ t, Steps p.tables e below (T93.setTop (mkF m 252 #[.val (.int p0), .val (.int p1), .val (.int p2), .val (.int p3), .val (.int p4), .val (.int p5), .val (.int cc), .val (.int (1 : Int32)), .val (.ref b4), .val (.ref b23), .val (.ref b45), .val (.ref gb81), .val (.int (if (1 : Int32) < cc then (1 : Int32) else cc))] [(.int (2 : Int32)), (.int cc), (.int (1 : Int32)), (.ref b23), (.ref b4), (.ref gb81)])) t → Steps p.tables e below (s₁.setTop (entryFrame m #[(.int p0), (.int p1), (.int p2), (.int p3), (.int p4), (.int p5)] maxLocals)) t := by
      intro t k
      refine a94 t ?_
      show Steps p.tables e below (T93.setTop (mkF m 238 #[.val (.int p0), .val (.int p1), .val (.int p2), .val (.int p3), .val (.int p4), .val (.int p5), .val (.int cc), .val (.int (1 : Int32)), .val (.ref b4), .val (.ref b23), .val (.ref b45), .val (.ref gb81), .val (.int (if (1 : Int32) < cc then (1 : Int32) else cc))] [(.int (1 : Int32))])) _
      refine XS.ifNo X93.here hx rfl (hb hby at_238) rfl ((if0 _ _).trans (feq (by decide)).1) ?_
      refine XS.aload X93.here hx rfl (hb hby at_241) rfl rfl ?_
      refine XS.aload X93.here hx rfl (hb hby at_243) rfl rfl ?_
      refine XS.aload X93.here hx rfl (hb hby at_245) rfl rfl ?_
      refine XS.iload X93.here hx rfl (hb hby at_247) rfl ?_
      refine XS.iload X93.here hx rfl (hb hby at_249) rfl ?_
      refine XS.iconst X93.here hx rfl (hb hby at_251) ?_
      exact k
    obtain ⟨_, _, ⟨T96, L96, k96, n96⟩, -, X96, ⟨Lc96, hQ96, l96, y96, z96⟩, st96⟩ := Jvm.LawKit.callS X93 hx (y := (⟨"com/example/tillerfront/tillerfront/engine/NearestOfferPinLaw", "ok", "([I[I[DIII)Z"⟩ : MethodName)) hown (mvT hZ (hw _ (List.mem_of_getElem? (i := 35) rfl))) (mvT hZ (hw _ (List.mem_of_getElem? (i := 36) rfl))) (mvT hZ (hw _ (List.mem_of_getElem? (i := 37) rfl))) (mvT hZ (hw _ (List.mem_of_getElem? (i := 38) rfl))) (by decide) (backOf (W := 0) (rmOk l Z a0 hw [] gb81 b4 b23 (1 : Int32) cc (2 : Int32) kg81 kk4 kk23 sq78 ((runP (0 : Int32) cN [p0, p1, p2, p3] [e0, e1, e2, e3] 1).1.take (runP (0 : Int32) cN [p0, p1, p2, p3] [e0, e1, e2, e3] 1).2.2) [p0, p1, p2, p3] [e0, e1, e2, e3] (runP (0 : Int32) cN [p0, p1, p2, p3] [e0, e1, e2, e3] 1).2.2 1 cN 2 fv T81.heap n0 (Nat.le_trans (Nat.le_trans (Nat.le_trans (Nat.le_trans (Nat.le_trans (Nat.le_trans (Nat.le_trans (Nat.le_trans (Nat.le_trans (Nat.le_trans (Nat.le_trans (Nat.le_trans (Nat.le_trans (Nat.le_trans Z0 E4.1) (Keep.of_wr W8).1) (Keep.of_wr W12).1) (Keep.of_wr W16).1) (Keep.of_wr W20).1) E23.1) (Keep.of_wr W28).1) (Keep.of_wr W33).1) (Keep.of_wr W38).1) (Keep.of_wr W43).1) E45.1) K48q.1) K78q.1) K81q.1) hf VG81 (((((Arv.other (Arv.other (Arv.other (Arv.other (V20.ext E23) W28 (Nat.ne_of_lt (Nat.lt_of_lt_of_le V20.lt (Nat.le_of_eq g23.symm)))) W33 (Nat.ne_of_lt (Nat.lt_of_lt_of_le V20.lt (Nat.le_of_eq g23.symm)))) W38 (Nat.ne_of_lt (Nat.lt_of_lt_of_le V20.lt (Nat.le_of_eq g23.symm)))) W43 (Nat.ne_of_lt (Nat.lt_of_lt_of_le V20.lt (Nat.le_of_eq g23.symm)))).ext E45).keep K48q (ninS (Nat.ne_of_lt (Nat.lt_of_lt_of_le (Arv.other (Arv.other (Arv.other (Arv.other (V20.ext E23) W28 (Nat.ne_of_lt (Nat.lt_of_lt_of_le V20.lt (Nat.le_of_eq g23.symm)))) W33 (Nat.ne_of_lt (Nat.lt_of_lt_of_le V20.lt (Nat.le_of_eq g23.symm)))) W38 (Nat.ne_of_lt (Nat.lt_of_lt_of_le V20.lt (Nat.le_of_eq g23.symm)))) W43 (Nat.ne_of_lt (Nat.lt_of_lt_of_le V20.lt (Nat.le_of_eq g23.symm)))).lt (Nat.le_of_eq g45.symm))) nin0)).keep K78q (ninS (Nat.ne_of_lt (Nat.lt_of_lt_of_le (Arv.other (Arv.other (Arv.other (Arv.other (V20.ext E23) W28 (Nat.ne_of_lt (Nat.lt_of_lt_of_le V20.lt (Nat.le_of_eq g23.symm)))) W33 (Nat.ne_of_lt (Nat.lt_of_lt_of_le V20.lt (Nat.le_of_eq g23.symm)))) W38 (Nat.ne_of_lt (Nat.lt_of_lt_of_le V20.lt (Nat.le_of_eq g23.symm)))) W43 (Nat.ne_of_lt (Nat.lt_of_lt_of_le V20.lt (Nat.le_of_eq g23.symm)))).lt (Nat.le_of_eq g45.symm))) (ninS (Nat.ne_of_lt (Nat.lt_of_lt_of_le ((Arv.other (Arv.other (Arv.other (Arv.other (V20.ext E23) W28 (Nat.ne_of_lt (Nat.lt_of_lt_of_le V20.lt (Nat.le_of_eq g23.symm)))) W33 (Nat.ne_of_lt (Nat.lt_of_lt_of_le V20.lt (Nat.le_of_eq g23.symm)))) W38 (Nat.ne_of_lt (Nat.lt_of_lt_of_le V20.lt (Nat.le_of_eq g23.symm)))) W43 (Nat.ne_of_lt (Nat.lt_of_lt_of_le V20.lt (Nat.le_of_eq g23.symm)))).ext E45).lt SI48)) (ninS (Nat.ne_of_lt (Nat.lt_of_lt_of_le ((Arv.other (Arv.other (Arv.other (Arv.other (V20.ext E23) W28 (Nat.ne_of_lt (Nat.lt_of_lt_of_le V20.lt (Nat.le_of_eq g23.symm)))) W33 (Nat.ne_of_lt (Nat.lt_of_lt_of_le V20.lt (Nat.le_of_eq g23.symm)))) W38 (Nat.ne_of_lt (Nat.lt_of_lt_of_le V20.lt (Nat.le_of_eq g23.symm)))) W43 (Nat.ne_of_lt (Nat.lt_of_lt_of_le V20.lt (Nat.le_of_eq g23.symm)))).ext E45).lt SD48)) nin0)))).keep K81q nin0) ((((V43.ext E45).keep K48q (ninS (Nat.ne_of_lt (Nat.lt_of_lt_of_le V43.lt (Nat.le_of_eq g45.symm))) nin0)).keep K78q (ninS (Nat.ne_of_lt (Nat.lt_of_lt_of_le V43.lt (Nat.le_of_eq g45.symm))) (ninS (Nat.ne_of_lt (Nat.lt_of_lt_of_le (V43.ext E45).lt SI48)) (ninS (Nat.ne_of_lt (Nat.lt_of_lt_of_le (V43.ext E45).lt SD48)) nin0)))).keep K81q nin0) (ds4 he0 he1 he2 he3) hz78 (by decide) hcc.1 (by decide) (by decide) (own_fin hnear (by decide))) hZ (hw _ (List.mem_of_getElem? (i := 38) rfl)) (hw _ (List.mem_of_getElem? (i := 37) rfl)) (by decide) (by decide)) (g := (mkF m 252 #[.val (.int p0), .val (.int p1), .val (.int p2), .val (.int p3), .val (.int p4), .val (.int p5), .val (.int cc), .val (.int (1 : Int32)), .val (.ref b4), .val (.ref b23), .val (.ref b45), .val (.ref gb81), .val (.int (if (1 : Int32) < cc then (1 : Int32) else cc))] [(.int (2 : Int32)), (.int cc), (.int (1 : Int32)), (.ref b23), (.ref b4), (.ref gb81)])) rfl (by rw [hml]; rfl) (argsL := [(.ref gb81), (.ref b4), (.ref b23), (.int (1 : Int32)), (.int cc), (.int (2 : Int32))]) (rest := []) (lenOf own_pd6 rfl) rfl (by show 2 * 0 + _ ≤ _; exact Nat.le_of_eq rfl) (hb hby at_252) (fun _ _ => ⟨rfl, e93q, (by decide : 6 + 0 ≤ _), (by decide : 26 + 0 ≤ _)⟩)
    dsimp only [Pt.U, Pt.locs, Pt.cells, Pt.slots] at X96 l96 y96 z96 st96 hQ96
    subst l96 y96 z96
    obtain ⟨rfl, N96q, e96q⟩ := hQ96
    have N96 := Fr.app N93 N96q
    have a97 : ∀ t, Steps p.tables e below (T96.setTop (mkF m 255 #[.val (.int p0), .val (.int p1), .val (.int p2), .val (.int p3), .val (.int p4), .val (.int p5), .val (.int cc), .val (.int (1 : Int32)), .val (.ref b4), .val (.ref b23), .val (.ref b45), .val (.ref gb81), .val (.int (if (1 : Int32) < cc then (1 : Int32) else cc))] [(.int (1 : Int32))])) t → Steps p.tables e below (s₁.setTop (entryFrame m #[(.int p0), (.int p1), (.int p2), (.int p3), (.int p4), (.int p5)] maxLocals)) t := fun t k => a95 t (st96 t k)
    have a98 : ∀ t, Steps p.tables e below (T96.setTop (mkF m 269 #[.val (.int p0), .val (.int p1), .val (.int p2), .val (.int p3), .val (.int p4), .val (.int p5), .val (.int cc), .val (.int (1 : Int32)), .val (.ref b4), .val (.ref b23), .val (.ref b45), .val (.ref gb81), .val (.int (if (1 : Int32) < cc then (1 : Int32) else cc))] [(.int (3 : Int32)), (.int cc), (.int (1 : Int32)), (.ref b23), (.ref b4), (.ref gb81)])) t → Steps p.tables e below (s₁.setTop (entryFrame m #[(.int p0), (.int p1), (.int p2), (.int p3), (.int p4), (.int p5)] maxLocals)) t := by
      intro t k
      refine a97 t ?_
      show Steps p.tables e below (T96.setTop (mkF m 255 #[.val (.int p0), .val (.int p1), .val (.int p2), .val (.int p3), .val (.int p4), .val (.int p5), .val (.int cc), .val (.int (1 : Int32)), .val (.ref b4), .val (.ref b23), .val (.ref b45), .val (.ref gb81), .val (.int (if (1 : Int32) < cc then (1 : Int32) else cc))] [(.int (1 : Int32))])) _
      refine XS.ifNo X96.here hx rfl (hb hby at_255) rfl ((if0 _ _).trans (feq (by decide)).1) ?_
      refine XS.aload X96.here hx rfl (hb hby at_258) rfl rfl ?_
      refine XS.aload X96.here hx rfl (hb hby at_260) rfl rfl ?_
      refine XS.aload X96.here hx rfl (hb hby at_262) rfl rfl ?_
      refine XS.iload X96.here hx rfl (hb hby at_264) rfl ?_
      refine XS.iload X96.here hx rfl (hb hby at_266) rfl ?_
      refine XS.iconst X96.here hx rfl (hb hby at_268) ?_
      exact k
    obtain ⟨_, _, ⟨T99, L99, k99, n99⟩, -, X99, ⟨Lc99, hQ99, l99, y99, z99⟩, st99⟩ := Jvm.LawKit.callS X96 hx (y := (⟨"com/example/tillerfront/tillerfront/engine/NearestOfferPinLaw", "ok", "([I[I[DIII)Z"⟩ : MethodName)) hown (mvT hZ (hw _ (List.mem_of_getElem? (i := 35) rfl))) (mvT hZ (hw _ (List.mem_of_getElem? (i := 36) rfl))) (mvT hZ (hw _ (List.mem_of_getElem? (i := 37) rfl))) (mvT hZ (hw _ (List.mem_of_getElem? (i := 38) rfl))) (by decide) (backOf (W := 0) (rmOk l Z a0 hw [] gb81 b4 b23 (1 : Int32) cc (3 : Int32) kg81 kk4 kk23 sq78 ((runP (0 : Int32) cN [p0, p1, p2, p3] [e0, e1, e2, e3] 1).1.take (runP (0 : Int32) cN [p0, p1, p2, p3] [e0, e1, e2, e3] 1).2.2) [p0, p1, p2, p3] [e0, e1, e2, e3] (runP (0 : Int32) cN [p0, p1, p2, p3] [e0, e1, e2, e3] 1).2.2 1 cN 3 fv T81.heap n0 (Nat.le_trans (Nat.le_trans (Nat.le_trans (Nat.le_trans (Nat.le_trans (Nat.le_trans (Nat.le_trans (Nat.le_trans (Nat.le_trans (Nat.le_trans (Nat.le_trans (Nat.le_trans (Nat.le_trans (Nat.le_trans Z0 E4.1) (Keep.of_wr W8).1) (Keep.of_wr W12).1) (Keep.of_wr W16).1) (Keep.of_wr W20).1) E23.1) (Keep.of_wr W28).1) (Keep.of_wr W33).1) (Keep.of_wr W38).1) (Keep.of_wr W43).1) E45.1) K48q.1) K78q.1) K81q.1) hf VG81 (((((Arv.other (Arv.other (Arv.other (Arv.other (V20.ext E23) W28 (Nat.ne_of_lt (Nat.lt_of_lt_of_le V20.lt (Nat.le_of_eq g23.symm)))) W33 (Nat.ne_of_lt (Nat.lt_of_lt_of_le V20.lt (Nat.le_of_eq g23.symm)))) W38 (Nat.ne_of_lt (Nat.lt_of_lt_of_le V20.lt (Nat.le_of_eq g23.symm)))) W43 (Nat.ne_of_lt (Nat.lt_of_lt_of_le V20.lt (Nat.le_of_eq g23.symm)))).ext E45).keep K48q (ninS (Nat.ne_of_lt (Nat.lt_of_lt_of_le (Arv.other (Arv.other (Arv.other (Arv.other (V20.ext E23) W28 (Nat.ne_of_lt (Nat.lt_of_lt_of_le V20.lt (Nat.le_of_eq g23.symm)))) W33 (Nat.ne_of_lt (Nat.lt_of_lt_of_le V20.lt (Nat.le_of_eq g23.symm)))) W38 (Nat.ne_of_lt (Nat.lt_of_lt_of_le V20.lt (Nat.le_of_eq g23.symm)))) W43 (Nat.ne_of_lt (Nat.lt_of_lt_of_le V20.lt (Nat.le_of_eq g23.symm)))).lt (Nat.le_of_eq g45.symm))) nin0)).keep K78q (ninS (Nat.ne_of_lt (Nat.lt_of_lt_of_le (Arv.other (Arv.other (Arv.other (Arv.other (V20.ext E23) W28 (Nat.ne_of_lt (Nat.lt_of_lt_of_le V20.lt (Nat.le_of_eq g23.symm)))) W33 (Nat.ne_of_lt (Nat.lt_of_lt_of_le V20.lt (Nat.le_of_eq g23.symm)))) W38 (Nat.ne_of_lt (Nat.lt_of_lt_of_le V20.lt (Nat.le_of_eq g23.symm)))) W43 (Nat.ne_of_lt (Nat.lt_of_lt_of_le V20.lt (Nat.le_of_eq g23.symm)))).lt (Nat.le_of_eq g45.symm))) (ninS (Nat.ne_of_lt (Nat.lt_of_lt_of_le ((Arv.other (Arv.other (Arv.other (Arv.other (V20.ext E23) W28 (Nat.ne_of_lt (Nat.lt_of_lt_of_le V20.lt (Nat.le_of_eq g23.symm)))) W33 (Nat.ne_of_lt (Nat.lt_of_lt_of_le V20.lt (Nat.le_of_eq g23.symm)))) W38 (Nat.ne_of_lt (Nat.lt_of_lt_of_le V20.lt (Nat.le_of_eq g23.symm)))) W43 (Nat.ne_of_lt (Nat.lt_of_lt_of_le V20.lt (Nat.le_of_eq g23.symm)))).ext E45).lt SI48)) (ninS (Nat.ne_of_lt (Nat.lt_of_lt_of_le ((Arv.other (Arv.other (Arv.other (Arv.other (V20.ext E23) W28 (Nat.ne_of_lt (Nat.lt_of_lt_of_le V20.lt (Nat.le_of_eq g23.symm)))) W33 (Nat.ne_of_lt (Nat.lt_of_lt_of_le V20.lt (Nat.le_of_eq g23.symm)))) W38 (Nat.ne_of_lt (Nat.lt_of_lt_of_le V20.lt (Nat.le_of_eq g23.symm)))) W43 (Nat.ne_of_lt (Nat.lt_of_lt_of_le V20.lt (Nat.le_of_eq g23.symm)))).ext E45).lt SD48)) nin0)))).keep K81q nin0) ((((V43.ext E45).keep K48q (ninS (Nat.ne_of_lt (Nat.lt_of_lt_of_le V43.lt (Nat.le_of_eq g45.symm))) nin0)).keep K78q (ninS (Nat.ne_of_lt (Nat.lt_of_lt_of_le V43.lt (Nat.le_of_eq g45.symm))) (ninS (Nat.ne_of_lt (Nat.lt_of_lt_of_le (V43.ext E45).lt SI48)) (ninS (Nat.ne_of_lt (Nat.lt_of_lt_of_le (V43.ext E45).lt SD48)) nin0)))).keep K81q nin0) (ds4 he0 he1 he2 he3) hz78 (by decide) hcc.1 (by decide) (by decide) (own_fin hnear (by decide))) hZ (hw _ (List.mem_of_getElem? (i := 38) rfl)) (hw _ (List.mem_of_getElem? (i := 37) rfl)) (by decide) (by decide)) (g := (mkF m 269 #[.val (.int p0), .val (.int p1), .val (.int p2), .val (.int p3), .val (.int p4), .val (.int p5), .val (.int cc), .val (.int (1 : Int32)), .val (.ref b4), .val (.ref b23), .val (.ref b45), .val (.ref gb81), .val (.int (if (1 : Int32) < cc then (1 : Int32) else cc))] [(.int (3 : Int32)), (.int cc), (.int (1 : Int32)), (.ref b23), (.ref b4), (.ref gb81)])) rfl (by rw [hml]; rfl) (argsL := [(.ref gb81), (.ref b4), (.ref b23), (.int (1 : Int32)), (.int cc), (.int (3 : Int32))]) (rest := []) (lenOf own_pd6 rfl) rfl (by show 2 * 0 + _ ≤ _; exact Nat.le_of_eq rfl) (hb hby at_269) (fun _ _ => ⟨rfl, e96q, (by decide : 6 + 0 ≤ _), (by decide : 26 + 0 ≤ _)⟩)
    dsimp only [Pt.U, Pt.locs, Pt.cells, Pt.slots] at X99 l99 y99 z99 st99 hQ99
    subst l99 y99 z99
    obtain ⟨rfl, N99q, e99q⟩ := hQ99
    have N99 := Fr.app N96 N99q
    have a100 : ∀ t, Steps p.tables e below (T99.setTop (mkF m 272 #[.val (.int p0), .val (.int p1), .val (.int p2), .val (.int p3), .val (.int p4), .val (.int p5), .val (.int cc), .val (.int (1 : Int32)), .val (.ref b4), .val (.ref b23), .val (.ref b45), .val (.ref gb81), .val (.int (if (1 : Int32) < cc then (1 : Int32) else cc))] [(.int (1 : Int32))])) t → Steps p.tables e below (s₁.setTop (entryFrame m #[(.int p0), (.int p1), (.int p2), (.int p3), (.int p4), (.int p5)] maxLocals)) t := fun t k => a98 t (st99 t k)
    have a101 : ∀ t, Steps p.tables e below (T99.setTop (mkF m 280 #[.val (.int p0), .val (.int p1), .val (.int p2), .val (.int p3), .val (.int p4), .val (.int p5), .val (.int cc), .val (.int (1 : Int32)), .val (.ref b4), .val (.ref b23), .val (.ref b45), .val (.ref gb81), .val (.int (if (1 : Int32) < cc then (1 : Int32) else cc))] [(.int (1 : Int32))])) t → Steps p.tables e below (s₁.setTop (entryFrame m #[(.int p0), (.int p1), (.int p2), (.int p3), (.int p4), (.int p5)] maxLocals)) t := by
      intro t k
      refine a100 t ?_
      show Steps p.tables e below (T99.setTop (mkF m 272 #[.val (.int p0), .val (.int p1), .val (.int p2), .val (.int p3), .val (.int p4), .val (.int p5), .val (.int cc), .val (.int (1 : Int32)), .val (.ref b4), .val (.ref b23), .val (.ref b45), .val (.ref gb81), .val (.int (if (1 : Int32) < cc then (1 : Int32) else cc))] [(.int (1 : Int32))])) _
      refine XS.ifNo X99.here hx rfl (hb hby at_272) rfl ((if0 _ _).trans (feq (by decide)).1) ?_
      refine XS.iconst X99.here hx rfl (hb hby at_275) ?_
      refine XS.goto X99.here hx rfl (pc0 := 276) (pc' := 280) rfl (hb hby at_276) (by decide) (by decide) ?_
      exact k
    obtain ⟨fs, hr, hrun, hended, hW, hsame⟩ := X99.leave (v := some (.int (1 : Int32))) (fun h => by rw [Bd.returns] at h; cases h)
    refine ⟨_, _, a101 _ ?_, hrun, hended, _, _, rfl, ?_, ⟨_, rfl⟩, hW, hsame.mono (by decide) (by decide)⟩
    · show Steps p.tables e below (T99.setTop (mkF m 280 #[.val (.int p0), .val (.int p1), .val (.int p2), .val (.int p3), .val (.int p4), .val (.int p5), .val (.int cc), .val (.int (1 : Int32)), .val (.ref b4), .val (.ref b23), .val (.ref b45), .val (.ref gb81), .val (.int (if (1 : Int32) < cc then (1 : Int32) else cc))] [(.int (1 : Int32))])) _
      exact retN X99 hx (t := .boolean) Bd.returns (by simp) (hb hby at_280) hr
    · show Q0 Z p0 p1 p2 p3 p4 p5 h0 n0 _ T99.heap _
      rw [e99q]
      exact ⟨rfl, N99⟩
  ·
    rw [el] at a50
    have a102 : ∀ t, Steps p.tables e below (T48.setTop (mkF m 116 #[.val (.int p0), .val (.int p1), .val (.int p2), .val (.int p3), .val (.int p4), .val (.int p5), .val (.int cc), .val (.int (2 : Int32)), .val (.ref b4), .val (.ref b23), .val (.ref b45), .unset, .unset] [(.int (0 : Int32)), (.ref b4), (.ref b45)])) t → Steps p.tables e below (s₁.setTop (entryFrame m #[(.int p0), (.int p1), (.int p2), (.int p3), (.int p4), (.int p5)] maxLocals)) t := by
      intro t k
      refine a50 t ?_
      show Steps p.tables e below (T48.setTop (mkF m 106 #[.val (.int p0), .val (.int p1), .val (.int p2), .val (.int p3), .val (.int p4), .val (.int p5), .val (.int cc), .val (.int (2 : Int32)), .val (.ref b4), .val (.ref b23), .val (.ref b45), .unset, .unset] [])) _
      refine XS.iload X48.here hx rfl (hb hby at_106) rfl ?_
      refine XS.ifNo X48.here hx rfl (hb hby at_108) rfl ((if0 _ _).trans (tlt (by decide)).2.2.2) ?_
      refine XS.aload X48.here hx rfl (hb hby at_111) rfl rfl ?_
      refine XS.aload X48.here hx rfl (hb hby at_113) rfl rfl ?_
      refine XS.iconst X48.here hx rfl (hb hby at_115) ?_
      exact k
    obtain ⟨cl103, Ar103, qc103, Sz103, Nn103, Hs103, Gs103⟩ := id (((Arv.other (Arv.other (Arv.other (Arv.other (V20.ext E23) W28 (Nat.ne_of_lt (Nat.lt_of_lt_of_le V20.lt (Nat.le_of_eq g23.symm)))) W33 (Nat.ne_of_lt (Nat.lt_of_lt_of_le V20.lt (Nat.le_of_eq g23.symm)))) W38 (Nat.ne_of_lt (Nat.lt_of_lt_of_le V20.lt (Nat.le_of_eq g23.symm)))) W43 (Nat.ne_of_lt (Nat.lt_of_lt_of_le V20.lt (Nat.le_of_eq g23.symm)))).ext E45).keep K48q (ninS (Nat.ne_of_lt (Nat.lt_of_lt_of_le (Arv.other (Arv.other (Arv.other (Arv.other (V20.ext E23) W28 (Nat.ne_of_lt (Nat.lt_of_lt_of_le V20.lt (Nat.le_of_eq g23.symm)))) W33 (Nat.ne_of_lt (Nat.lt_of_lt_of_le V20.lt (Nat.le_of_eq g23.symm)))) W38 (Nat.ne_of_lt (Nat.lt_of_lt_of_le V20.lt (Nat.le_of_eq g23.symm)))) W43 (Nat.ne_of_lt (Nat.lt_of_lt_of_le V20.lt (Nat.le_of_eq g23.symm)))).lt (Nat.le_of_eq g45.symm))) nin0))
    have hin103 : ¬ ((0 : Int32) < 0 ∨ cl103.slots.size ≤ ((0 : Int32)).toNatClampNeg) := inb_of Sz103 ⟨by decide, by decide⟩
    have hat103 := Hs103.at hin103 (v := (.int p0)) rfl
    have a104 : ∀ t, Steps p.tables e below (T48.setTop (mkF m 120 #[.val (.int p0), .val (.int p1), .val (.int p2), .val (.int p3), .val (.int p4), .val (.int p5), .val (.int cc), .val (.int (2 : Int32)), .val (.ref b4), .val (.ref b23), .val (.ref b45), .unset, .unset] [(.int (0 : Int32)), (.ref b23), (.int p0), (.ref b45)])) t → Steps p.tables e below (s₁.setTop (entryFrame m #[(.int p0), (.int p1), (.int p2), (.int p3), (.int p4), (.int p5)] maxLocals)) t := by
      intro t k
      refine a102 t ?_
      show Steps p.tables e below (T48.setTop (mkF m 116 #[.val (.int p0), .val (.int p1), .val (.int p2), .val (.int p3), .val (.int p4), .val (.int p5), .val (.int cc), .val (.int (2 : Int32)), .val (.ref b4), .val (.ref b23), .val (.ref b45), .unset, .unset] [(.int (0 : Int32)), (.ref b4), (.ref b45)])) _
      refine X48.iaload hx (j := (0 : Int32)) (v := (.int p0)) Ar103.1 (State.isArrayOf_alike hZ.alike Ar103.2.1) Ar103.2.2 hin103 hat103 (g := (mkF m 116 #[.val (.int p0), .val (.int p1), .val (.int p2), .val (.int p3), .val (.int p4), .val (.int p5), .val (.int cc), .val (.int (2 : Int32)), .val (.ref b4), .val (.ref b23), .val (.ref b45), .unset, .unset] [(.int (0 : Int32)), (.ref b4), (.ref b45)])) rfl rfl (hb hby at_116) _ ?_
      refine XS.aload X48.here hx rfl (hb hby at_117) rfl rfl ?_
      refine XS.iconst X48.here hx rfl (hb hby at_119) ?_
      exact k
    obtain ⟨cl105, Ar105, qc105, Sz105, Nn105, Hs105, Gs105⟩ := id ((V43.ext E45).keep K48q (ninS (Nat.ne_of_lt (Nat.lt_of_lt_of_le V43.lt (Nat.le_of_eq g45.symm))) nin0))
    have hin105 : ¬ ((0 : Int32) < 0 ∨ cl105.slots.size ≤ ((0 : Int32)).toNatClampNeg) := inb_of Sz105 ⟨by decide, by decide⟩
    have hat105 := Hs105.at hin105 (v := (.double (fv e0))) rfl
    have a106 : ∀ t, Steps p.tables e below (T48.setTop (mkF m 121 #[.val (.int p0), .val (.int p1), .val (.int p2), .val (.int p3), .val (.int p4), .val (.int p5), .val (.int cc), .val (.int (2 : Int32)), .val (.ref b4), .val (.ref b23), .val (.ref b45), .unset, .unset] [(.double (fv e0)), (.int p0), (.ref b45)])) t → Steps p.tables e below (s₁.setTop (entryFrame m #[(.int p0), (.int p1), (.int p2), (.int p3), (.int p4), (.int p5)] maxLocals)) t := by
      intro t k
      refine a104 t ?_
      show Steps p.tables e below (T48.setTop (mkF m 120 #[.val (.int p0), .val (.int p1), .val (.int p2), .val (.int p3), .val (.int p4), .val (.int p5), .val (.int cc), .val (.int (2 : Int32)), .val (.ref b4), .val (.ref b23), .val (.ref b45), .unset, .unset] [(.int (0 : Int32)), (.ref b23), (.int p0), (.ref b45)])) _
      refine X48.daload hx (j := (0 : Int32)) (v := (.double (fv e0))) Ar105.1 (State.isArrayOf_alike hZ.alike Ar105.2.1) Ar105.2.2 hin105 hat105 (g := (mkF m 120 #[.val (.int p0), .val (.int p1), .val (.int p2), .val (.int p3), .val (.int p4), .val (.int p5), .val (.int cc), .val (.int (2 : Int32)), .val (.ref b4), .val (.ref b23), .val (.ref b45), .unset, .unset] [(.int (0 : Int32)), (.ref b23), (.int p0), (.ref b45)])) rfl rfl (hb hby at_120) _ ?_
      exact k
    obtain ⟨cq107, kq107, q107a, q107b, q107c⟩ := isOf hZ rfl (A45.keep K48q)
    obtain ⟨_, _, ⟨T107, L107, k107, n107⟩, -, X107, ⟨Lc107, hQ107, l107, y107, z107⟩, st107⟩ := X48.virtualBack hx (y := (⟨"com/example/tillerfront/tillerfront/engine/Nearest", "offer", "(ID)V"⟩ : MethodName)) (z := (⟨"com/example/tillerfront/tillerfront/engine/Nearest", "offer", "(ID)V"⟩ : MethodName)) hown (mvT hZ (hw _ (List.mem_of_getElem? (i := 39) rfl))) (mvT hZ (hw _ (List.mem_of_getElem? (i := 40) rfl))) (notFace_of_selects (args := #[]) (mvT hZ (hw _ (List.mem_of_getElem? (i := 42) rfl)))) (mvT hZ (hw _ (List.mem_of_getElem? (i := 42) rfl))) (mvT hZ (hw _ (List.mem_of_getElem? (i := 41) rfl))) (by decide) (backOf (W := 0) (rmO l Z a0 hw [] b45 p0 ia48 da48 ki48 kd48 cc (0 : Int32) cN (runP (0 : Int32) cN [p0, p1, p2, p3] [e0, e1, e2, e3] 0).2.2 e0 (runP (0 : Int32) cN [p0, p1, p2, p3] [e0, e1, e2, e3] 0).1 (runP (0 : Int32) cN [p0, p1, p2, p3] [e0, e1, e2, e3] 0).2.1 fv T48.heap n0 (Nat.le_trans (Nat.le_trans (Nat.le_trans (Nat.le_trans (Nat.le_trans (Nat.le_trans (Nat.le_trans (Nat.le_trans (Nat.le_trans (Nat.le_trans (Nat.le_trans (Nat.le_trans Z0 E4.1) (Keep.of_wr W8).1) (Keep.of_wr W12).1) (Keep.of_wr W16).1) (Keep.of_wr W20).1) E23.1) (Keep.of_wr W28).1) (Keep.of_wr W33).1) (Keep.of_wr W38).1) (Keep.of_wr W43).1) E45.1) K48q.1) hf (A45.keep K48q) g_b45 GI48 GD48 FI48 FD48 FS48 PI48 PD48 (Nat.ne_of_lt (Nat.lt_of_lt_of_le F_size_b45.lt SI48)) (Nat.ne_of_lt (Nat.lt_of_lt_of_le F_size_b45.lt SD48)) nid48 hcc ⟨(show (0 : Int32).toInt = ((0 : Nat) : Int) by decide), (hinv 0).2.2.2⟩ (hinv 0).1 (hinv 0).2.1 (hinv 0).2.2.1 he0) hZ (hw _ (List.mem_of_getElem? (i := 43) rfl)) (hw _ (List.mem_of_getElem? (i := 4) rfl)) (by decide) (by decide)) q107a q107c (g := (mkF m 121 #[.val (.int p0), .val (.int p1), .val (.int p2), .val (.int p3), .val (.int p4), .val (.int p5), .val (.int cc), .val (.int (2 : Int32)), .val (.ref b4), .val (.ref b23), .val (.ref b45), .unset, .unset] [(.double (fv e0)), (.int p0), (.ref b45)])) rfl (by rw [hml]; rfl) (Steps.refl _) (argsL := [(.int p0), (.double (fv e0))]) (rest := []) (lenOf own_pd7 rfl) rfl (by show 2 * 0 + _ ≤ _; exact Nat.le_of_eq rfl) (hb hby at_121) (fun _ _ => ⟨rfl, rfl, (by decide : 5 + 0 ≤ _), (by decide : 21 + 0 ≤ _)⟩)
    dsimp only [Pt.U, Pt.locs, Pt.cells, Pt.slots] at X107 l107 y107 z107 st107 hQ107
    subst l107 y107 z107
    obtain ⟨rfl, N107q, K107q, FI107, FD107, sq107, FS107, hq107, AI107, AD107⟩ := hQ107
    have N107 := Fr.app N48 N107q
    have KK107 : Keep h0 T107.heap [] := Keep.trans KK48 K107q (allS (Or.inr sz_b45) (allS (Or.inr (Nat.le_trans (K45).1 SI48)) (allS (Or.inr (Nat.le_trans (K45).1 SD48)) all0)))
    have PI107 : Arv Z T107.heap ia48 ki48 .int cc ((runP (0 : Int32) cN [p0, p1, p2, p3] [e0, e1, e2, e3] 1).1.map Value.int) (.int (0 : Int32)) := AI107
    have PD107 : Arv Z T107.heap da48 kd48 .double cc ((runP (0 : Int32) cN [p0, p1, p2, p3] [e0, e1, e2, e3] 1).2.1.map (fd fv)) (.double (0 : UInt64)) := AD107
    have hz107 : sq107.toInt = (((runP (0 : Int32) cN [p0, p1, p2, p3] [e0, e1, e2, e3] 1).2.2 : Nat) : Int) := hq107
    have a108 : ∀ t, Steps p.tables e below (T107.setTop (mkF m 124 #[.val (.int p0), .val (.int p1), .val (.int p2), .val (.int p3), .val (.int p4), .val (.int p5), .val (.int cc), .val (.int (2 : Int32)), .val (.ref b4), .val (.ref b23), .val (.ref b45), .unset, .unset] [])) t → Steps p.tables e below (s₁.setTop (entryFrame m #[(.int p0), (.int p1), (.int p2), (.int p3), (.int p4), (.int p5)] maxLocals)) t := fun t k => a106 t (st107.trans k)
    have a109 : ∀ t, Steps p.tables e below (T107.setTop (mkF m 135 #[.val (.int p0), .val (.int p1), .val (.int p2), .val (.int p3), .val (.int p4), .val (.int p5), .val (.int cc), .val (.int (2 : Int32)), .val (.ref b4), .val (.ref b23), .val (.ref b45), .unset, .unset] [(.int (1 : Int32)), (.ref b4), (.ref b45)])) t → Steps p.tables e below (s₁.setTop (entryFrame m #[(.int p0), (.int p1), (.int p2), (.int p3), (.int p4), (.int p5)] maxLocals)) t := by
      intro t k
      refine a108 t ?_
      show Steps p.tables e below (T107.setTop (mkF m 124 #[.val (.int p0), .val (.int p1), .val (.int p2), .val (.int p3), .val (.int p4), .val (.int p5), .val (.int cc), .val (.int (2 : Int32)), .val (.ref b4), .val (.ref b23), .val (.ref b45), .unset, .unset] [])) _
      refine XS.iload X107.here hx rfl (hb hby at_124) rfl ?_
      refine XS.iconst X107.here hx rfl (hb hby at_126) ?_
      refine XS.icmpNo X107.here hx rfl (hb hby at_127) rfl (tlt (by decide)).2.2.2 ?_
      refine XS.aload X107.here hx rfl (hb hby at_130) rfl rfl ?_
      refine XS.aload X107.here hx rfl (hb hby at_132) rfl rfl ?_
      refine XS.iconst X107.here hx rfl (hb hby at_134) ?_
      exact k
    obtain ⟨cl110, Ar110, qc110, Sz110, Nn110, Hs110, Gs110⟩ := id ((((Arv.other (Arv.other (Arv.other (Arv.other (V20.ext E23) W28 (Nat.ne_of_lt (Nat.lt_of_lt_of_le V20.lt (Nat.le_of_eq g23.symm)))) W33 (Nat.ne_of_lt (Nat.lt_of_lt_of_le V20.lt (Nat.le_of_eq g23.symm)))) W38 (Nat.ne_of_lt (Nat.lt_of_lt_of_le V20.lt (Nat.le_of_eq g23.symm)))) W43 (Nat.ne_of_lt (Nat.lt_of_lt_of_le V20.lt (Nat.le_of_eq g23.symm)))).ext E45).keep K48q (ninS (Nat.ne_of_lt (Nat.lt_of_lt_of_le (Arv.other (Arv.other (Arv.other (Arv.other (V20.ext E23) W28 (Nat.ne_of_lt (Nat.lt_of_lt_of_le V20.lt (Nat.le_of_eq g23.symm)))) W33 (Nat.ne_of_lt (Nat.lt_of_lt_of_le V20.lt (Nat.le_of_eq g23.symm)))) W38 (Nat.ne_of_lt (Nat.lt_of_lt_of_le V20.lt (Nat.le_of_eq g23.symm)))) W43 (Nat.ne_of_lt (Nat.lt_of_lt_of_le V20.lt (Nat.le_of_eq g23.symm)))).lt (Nat.le_of_eq g45.symm))) nin0)).keep K107q (ninS (Nat.ne_of_lt (Nat.lt_of_lt_of_le (Arv.other (Arv.other (Arv.other (Arv.other (V20.ext E23) W28 (Nat.ne_of_lt (Nat.lt_of_lt_of_le V20.lt (Nat.le_of_eq g23.symm)))) W33 (Nat.ne_of_lt (Nat.lt_of_lt_of_le V20.lt (Nat.le_of_eq g23.symm)))) W38 (Nat.ne_of_lt (Nat.lt_of_lt_of_le V20.lt (Nat.le_of_eq g23.symm)))) W43 (Nat.ne_of_lt (Nat.lt_of_lt_of_le V20.lt (Nat.le_of_eq g23.symm)))).lt (Nat.le_of_eq g45.symm))) (ninS (Nat.ne_of_lt (Nat.lt_of_lt_of_le ((Arv.other (Arv.other (Arv.other (Arv.other (V20.ext E23) W28 (Nat.ne_of_lt (Nat.lt_of_lt_of_le V20.lt (Nat.le_of_eq g23.symm)))) W33 (Nat.ne_of_lt (Nat.lt_of_lt_of_le V20.lt (Nat.le_of_eq g23.symm)))) W38 (Nat.ne_of_lt (Nat.lt_of_lt_of_le V20.lt (Nat.le_of_eq g23.symm)))) W43 (Nat.ne_of_lt (Nat.lt_of_lt_of_le V20.lt (Nat.le_of_eq g23.symm)))).ext E45).lt SI48)) (ninS (Nat.ne_of_lt (Nat.lt_of_lt_of_le ((Arv.other (Arv.other (Arv.other (Arv.other (V20.ext E23) W28 (Nat.ne_of_lt (Nat.lt_of_lt_of_le V20.lt (Nat.le_of_eq g23.symm)))) W33 (Nat.ne_of_lt (Nat.lt_of_lt_of_le V20.lt (Nat.le_of_eq g23.symm)))) W38 (Nat.ne_of_lt (Nat.lt_of_lt_of_le V20.lt (Nat.le_of_eq g23.symm)))) W43 (Nat.ne_of_lt (Nat.lt_of_lt_of_le V20.lt (Nat.le_of_eq g23.symm)))).ext E45).lt SD48)) nin0))))
    have hin110 : ¬ ((1 : Int32) < 0 ∨ cl110.slots.size ≤ ((1 : Int32)).toNatClampNeg) := inb_of Sz110 ⟨by decide, by decide⟩
    have hat110 := Hs110.at hin110 (v := (.int p1)) rfl
    have a111 : ∀ t, Steps p.tables e below (T107.setTop (mkF m 139 #[.val (.int p0), .val (.int p1), .val (.int p2), .val (.int p3), .val (.int p4), .val (.int p5), .val (.int cc), .val (.int (2 : Int32)), .val (.ref b4), .val (.ref b23), .val (.ref b45), .unset, .unset] [(.int (1 : Int32)), (.ref b23), (.int p1), (.ref b45)])) t → Steps p.tables e below (s₁.setTop (entryFrame m #[(.int p0), (.int p1), (.int p2), (.int p3), (.int p4), (.int p5)] maxLocals)) t := by
      intro t k
      refine a109 t ?_
      show Steps p.tables e below (T107.setTop (mkF m 135 #[.val (.int p0), .val (.int p1), .val (.int p2), .val (.int p3), .val (.int p4), .val (.int p5), .val (.int cc), .val (.int (2 : Int32)), .val (.ref b4), .val (.ref b23), .val (.ref b45), .unset, .unset] [(.int (1 : Int32)), (.ref b4), (.ref b45)])) _
      refine X107.iaload hx (j := (1 : Int32)) (v := (.int p1)) Ar110.1 (State.isArrayOf_alike hZ.alike Ar110.2.1) Ar110.2.2 hin110 hat110 (g := (mkF m 135 #[.val (.int p0), .val (.int p1), .val (.int p2), .val (.int p3), .val (.int p4), .val (.int p5), .val (.int cc), .val (.int (2 : Int32)), .val (.ref b4), .val (.ref b23), .val (.ref b45), .unset, .unset] [(.int (1 : Int32)), (.ref b4), (.ref b45)])) rfl rfl (hb hby at_135) _ ?_
      refine XS.aload X107.here hx rfl (hb hby at_136) rfl rfl ?_
      refine XS.iconst X107.here hx rfl (hb hby at_138) ?_
      exact k
    obtain ⟨cl112, Ar112, qc112, Sz112, Nn112, Hs112, Gs112⟩ := id (((V43.ext E45).keep K48q (ninS (Nat.ne_of_lt (Nat.lt_of_lt_of_le V43.lt (Nat.le_of_eq g45.symm))) nin0)).keep K107q (ninS (Nat.ne_of_lt (Nat.lt_of_lt_of_le V43.lt (Nat.le_of_eq g45.symm))) (ninS (Nat.ne_of_lt (Nat.lt_of_lt_of_le (V43.ext E45).lt SI48)) (ninS (Nat.ne_of_lt (Nat.lt_of_lt_of_le (V43.ext E45).lt SD48)) nin0))))
    have hin112 : ¬ ((1 : Int32) < 0 ∨ cl112.slots.size ≤ ((1 : Int32)).toNatClampNeg) := inb_of Sz112 ⟨by decide, by decide⟩
    have hat112 := Hs112.at hin112 (v := (.double (fv e1))) rfl
    have a113 : ∀ t, Steps p.tables e below (T107.setTop (mkF m 140 #[.val (.int p0), .val (.int p1), .val (.int p2), .val (.int p3), .val (.int p4), .val (.int p5), .val (.int cc), .val (.int (2 : Int32)), .val (.ref b4), .val (.ref b23), .val (.ref b45), .unset, .unset] [(.double (fv e1)), (.int p1), (.ref b45)])) t → Steps p.tables e below (s₁.setTop (entryFrame m #[(.int p0), (.int p1), (.int p2), (.int p3), (.int p4), (.int p5)] maxLocals)) t := by
      intro t k
      refine a111 t ?_
      show Steps p.tables e below (T107.setTop (mkF m 139 #[.val (.int p0), .val (.int p1), .val (.int p2), .val (.int p3), .val (.int p4), .val (.int p5), .val (.int cc), .val (.int (2 : Int32)), .val (.ref b4), .val (.ref b23), .val (.ref b45), .unset, .unset] [(.int (1 : Int32)), (.ref b23), (.int p1), (.ref b45)])) _
      refine X107.daload hx (j := (1 : Int32)) (v := (.double (fv e1))) Ar112.1 (State.isArrayOf_alike hZ.alike Ar112.2.1) Ar112.2.2 hin112 hat112 (g := (mkF m 139 #[.val (.int p0), .val (.int p1), .val (.int p2), .val (.int p3), .val (.int p4), .val (.int p5), .val (.int cc), .val (.int (2 : Int32)), .val (.ref b4), .val (.ref b23), .val (.ref b45), .unset, .unset] [(.int (1 : Int32)), (.ref b23), (.int p1), (.ref b45)])) rfl rfl (hb hby at_139) _ ?_
      exact k
    obtain ⟨cq114, kq114, q114a, q114b, q114c⟩ := isOf hZ rfl ((A45.keep K48q).keep K107q)
    obtain ⟨_, _, ⟨T114, L114, k114, n114⟩, -, X114, ⟨Lc114, hQ114, l114, y114, z114⟩, st114⟩ := X107.virtualBack hx (y := (⟨"com/example/tillerfront/tillerfront/engine/Nearest", "offer", "(ID)V"⟩ : MethodName)) (z := (⟨"com/example/tillerfront/tillerfront/engine/Nearest", "offer", "(ID)V"⟩ : MethodName)) hown (mvT hZ (hw _ (List.mem_of_getElem? (i := 39) rfl))) (mvT hZ (hw _ (List.mem_of_getElem? (i := 40) rfl))) (notFace_of_selects (args := #[]) (mvT hZ (hw _ (List.mem_of_getElem? (i := 42) rfl)))) (mvT hZ (hw _ (List.mem_of_getElem? (i := 42) rfl))) (mvT hZ (hw _ (List.mem_of_getElem? (i := 41) rfl))) (by decide) (backOf (W := 0) (rmO l Z a0 hw [] b45 p1 ia48 da48 ki48 kd48 cc sq107 cN (runP (0 : Int32) cN [p0, p1, p2, p3] [e0, e1, e2, e3] 1).2.2 e1 (runP (0 : Int32) cN [p0, p1, p2, p3] [e0, e1, e2, e3] 1).1 (runP (0 : Int32) cN [p0, p1, p2, p3] [e0, e1, e2, e3] 1).2.1 fv T107.heap n0 (Nat.le_trans (Nat.le_trans (Nat.le_trans (Nat.le_trans (Nat.le_trans (Nat.le_trans (Nat.le_trans (Nat.le_trans (Nat.le_trans (Nat.le_trans (Nat.le_trans (Nat.le_trans (Nat.le_trans Z0 E4.1) (Keep.of_wr W8).1) (Keep.of_wr W12).1) (Keep.of_wr W16).1) (Keep.of_wr W20).1) E23.1) (Keep.of_wr W28).1) (Keep.of_wr W33).1) (Keep.of_wr W38).1) (Keep.of_wr W43).1) E45.1) K48q.1) K107q.1) hf ((A45.keep K48q).keep K107q) g_b45 GI48 GD48 FI107 FD107 FS107 PI107 PD107 (Nat.ne_of_lt (Nat.lt_of_lt_of_le F_size_b45.lt SI48)) (Nat.ne_of_lt (Nat.lt_of_lt_of_le F_size_b45.lt SD48)) nid48 hcc ⟨hz107, (hinv 1).2.2.2⟩ (hinv 1).1 (hinv 1).2.1 (hinv 1).2.2.1 he1) hZ (hw _ (List.mem_of_getElem? (i := 43) rfl)) (hw _ (List.mem_of_getElem? (i := 4) rfl)) (by decide) (by decide)) q114a q114c (g := (mkF m 140 #[.val (.int p0), .val (.int p1), .val (.int p2), .val (.int p3), .val (.int p4), .val (.int p5), .val (.int cc), .val (.int (2 : Int32)), .val (.ref b4), .val (.ref b23), .val (.ref b45), .unset, .unset] [(.double (fv e1)), (.int p1), (.ref b45)])) rfl (by rw [hml]; rfl) (Steps.refl _) (argsL := [(.int p1), (.double (fv e1))]) (rest := []) (lenOf own_pd7 rfl) rfl (by show 2 * 0 + _ ≤ _; exact Nat.le_of_eq rfl) (hb hby at_140) (fun _ _ => ⟨rfl, rfl, (by decide : 5 + 0 ≤ _), (by decide : 21 + 0 ≤ _)⟩)
    dsimp only [Pt.U, Pt.locs, Pt.cells, Pt.slots] at X114 l114 y114 z114 st114 hQ114
    subst l114 y114 z114
    obtain ⟨rfl, N114q, K114q, FI114, FD114, sq114, FS114, hq114, AI114, AD114⟩ := hQ114
    have N114 := Fr.app N107 N114q
    have KK114 : Keep h0 T114.heap [] := Keep.trans KK107 K114q (allS (Or.inr sz_b45) (allS (Or.inr (Nat.le_trans (K45).1 SI48)) (allS (Or.inr (Nat.le_trans (K45).1 SD48)) all0)))
    have PI114 : Arv Z T114.heap ia48 ki48 .int cc ((runP (0 : Int32) cN [p0, p1, p2, p3] [e0, e1, e2, e3] 2).1.map Value.int) (.int (0 : Int32)) := AI114
    have PD114 : Arv Z T114.heap da48 kd48 .double cc ((runP (0 : Int32) cN [p0, p1, p2, p3] [e0, e1, e2, e3] 2).2.1.map (fd fv)) (.double (0 : UInt64)) := AD114
    have hz114 : sq114.toInt = (((runP (0 : Int32) cN [p0, p1, p2, p3] [e0, e1, e2, e3] 2).2.2 : Nat) : Int) := hq114
    have a115 : ∀ t, Steps p.tables e below (T114.setTop (mkF m 143 #[.val (.int p0), .val (.int p1), .val (.int p2), .val (.int p3), .val (.int p4), .val (.int p5), .val (.int cc), .val (.int (2 : Int32)), .val (.ref b4), .val (.ref b23), .val (.ref b45), .unset, .unset] [])) t → Steps p.tables e below (s₁.setTop (entryFrame m #[(.int p0), (.int p1), (.int p2), (.int p3), (.int p4), (.int p5)] maxLocals)) t := fun t k => a113 t (st114.trans k)
    have a116 : ∀ t, Steps p.tables e below (T114.setTop (mkF m 183 #[.val (.int p0), .val (.int p1), .val (.int p2), .val (.int p3), .val (.int p4), .val (.int p5), .val (.int cc), .val (.int (2 : Int32)), .val (.ref b4), .val (.ref b23), .val (.ref b45), .unset, .unset] [(.ref b45)])) t → Steps p.tables e below (s₁.setTop (entryFrame m #[(.int p0), (.int p1), (.int p2), (.int p3), (.int p4), (.int p5)] maxLocals)) t := by
      intro t k
      refine a115 t ?_
      show Steps p.tables e below (T114.setTop (mkF m 143 #[.val (.int p0), .val (.int p1), .val (.int p2), .val (.int p3), .val (.int p4), .val (.int p5), .val (.int cc), .val (.int (2 : Int32)), .val (.ref b4), .val (.ref b23), .val (.ref b45), .unset, .unset] [])) _
      refine XS.iload X114.here hx rfl (hb hby at_143) rfl ?_
      refine XS.iconst X114.here hx rfl (hb hby at_145) ?_
      refine XS.icmpYes X114.here hx rfl (pc0 := 146) (pc' := 162) rfl (hb hby at_146) rfl (flt (by decide)).2.2.2 (by decide) (by decide) ?_
      refine XS.iload X114.here hx rfl (hb hby at_162) rfl ?_
      refine XS.iconst X114.here hx rfl (hb hby at_164) ?_
      refine XS.icmpYes X114.here hx rfl (pc0 := 165) (pc' := 181) rfl (hb hby at_165) rfl (flt (by decide)).2.2.2 (by decide) (by decide) ?_
      refine XS.aload X114.here hx rfl (hb hby at_181) rfl rfl ?_
      exact k
    obtain ⟨cq117, kq117, q117a, q117b, q117c⟩ := isOf hZ rfl (((A45.keep K48q).keep K107q).keep K114q)
    obtain ⟨_, _, ⟨T117, L117, k117, n117⟩, -, X117, ⟨Lc117, hQ117, l117, y117, z117⟩, st117⟩ := X114.virtualBack hx (y := (⟨"com/example/tillerfront/tillerfront/engine/Nearest", "indices", "()[I"⟩ : MethodName)) (z := (⟨"com/example/tillerfront/tillerfront/engine/Nearest", "indices", "()[I"⟩ : MethodName)) hown (mvT hZ (hw _ (List.mem_of_getElem? (i := 15) rfl))) (mvT hZ (hw _ (List.mem_of_getElem? (i := 16) rfl))) (notFace_of_selects (args := #[]) (mvT hZ (hw _ (List.mem_of_getElem? (i := 18) rfl)))) (mvT hZ (hw _ (List.mem_of_getElem? (i := 18) rfl))) (mvT hZ (hw _ (List.mem_of_getElem? (i := 17) rfl))) (by decide) (backOf (W := 0) (rmIn l Z a0 hw [] b45 ia48 ki48 cc sq114 cN (runP (0 : Int32) cN [p0, p1, p2, p3] [e0, e1, e2, e3] 2).2.2 (runP (0 : Int32) cN [p0, p1, p2, p3] [e0, e1, e2, e3] 2).1 T114.heap n0 (Nat.le_trans (Nat.le_trans (Nat.le_trans (Nat.le_trans (Nat.le_trans (Nat.le_trans (Nat.le_trans (Nat.le_trans (Nat.le_trans (Nat.le_trans (Nat.le_trans (Nat.le_trans (Nat.le_trans (Nat.le_trans Z0 E4.1) (Keep.of_wr W8).1) (Keep.of_wr W12).1) (Keep.of_wr W16).1) (Keep.of_wr W20).1) E23.1) (Keep.of_wr W28).1) (Keep.of_wr W33).1) (Keep.of_wr W38).1) (Keep.of_wr W43).1) E45.1) K48q.1) K107q.1) K114q.1) FI114 FS114 PI114 ((XI48.keep K107q).keep K114q) hcc ⟨hz114, (hinv 2).2.2.2⟩ (hinv 2).1) hZ (hw _ (List.mem_of_getElem? (i := 19) rfl)) (hw _ (List.mem_of_getElem? (i := 4) rfl)) (by decide) (by decide)) q117a q117c (g := (mkF m 183 #[.val (.int p0), .val (.int p1), .val (.int p2), .val (.int p3), .val (.int p4), .val (.int p5), .val (.int cc), .val (.int (2 : Int32)), .val (.ref b4), .val (.ref b23), .val (.ref b45), .unset, .unset] [(.ref b45)])) rfl (by rw [hml]; rfl) (Steps.refl _) (argsL := []) (rest := []) (lenOf own_pd5 rfl) rfl (by show 2 * 0 + _ ≤ _; exact Nat.le_of_eq rfl) (hb hby at_183) (fun _ _ => ⟨rfl, rfl, (by decide : 5 + 1 ≤ _), (by decide : 21 + 5 ≤ _)⟩)
    dsimp only [Pt.U, Pt.locs, Pt.cells, Pt.slots] at X117 l117 y117 z117 st117 hQ117
    subst l117 y117 z117
    obtain ⟨gb117, kg117, rfl, N117q, K117q, VG117⟩ := hQ117
    have N117 := Fr.app N114 N117q
    have KK117 : Keep h0 T117.heap [] := Keep.trans KK114 K117q all0
    have a118 : ∀ t, Steps p.tables e below (T117.setTop (mkF m 186 #[.val (.int p0), .val (.int p1), .val (.int p2), .val (.int p3), .val (.int p4), .val (.int p5), .val (.int cc), .val (.int (2 : Int32)), .val (.ref b4), .val (.ref b23), .val (.ref b45), .unset, .unset] [(.ref gb117)])) t → Steps p.tables e below (s₁.setTop (entryFrame m #[(.int p0), (.int p1), (.int p2), (.int p3), (.int p4), (.int p5)] maxLocals)) t := fun t k => a116 t (st117.trans k)
    have a119 : ∀ t, Steps p.tables e below (T117.setTop (mkF m 188 #[.val (.int p0), .val (.int p1), .val (.int p2), .val (.int p3), .val (.int p4), .val (.int p5), .val (.int cc), .val (.int (2 : Int32)), .val (.ref b4), .val (.ref b23), .val (.ref b45), .val (.ref gb117), .unset] [])) t → Steps p.tables e below (s₁.setTop (entryFrame m #[(.int p0), (.int p1), (.int p2), (.int p3), (.int p4), (.int p5)] maxLocals)) t := by
      intro t k
      refine a118 t ?_
      show Steps p.tables e below (T117.setTop (mkF m 186 #[.val (.int p0), .val (.int p1), .val (.int p2), .val (.int p3), .val (.int p4), .val (.int p5), .val (.int cc), .val (.int (2 : Int32)), .val (.ref b4), .val (.ref b23), .val (.ref b45), .unset, .unset] [(.ref gb117)])) _
      refine XS.astore X117.here hx rfl (hb hby at_186) rfl rfl (l' := #[.val (.int p0), .val (.int p1), .val (.int p2), .val (.int p3), .val (.int p4), .val (.int p5), .val (.int cc), .val (.int (2 : Int32)), .val (.ref b4), .val (.ref b23), .val (.ref b45), .val (.ref gb117), .unset]) rfl ?_
      exact k
    have hnear := nearL p0 p1 p2 p3 (0 : Int32) (n := 2) hcc.2 (by decide) he0 he1 he2 he3
    have a120 : ∀ t, Steps p.tables e below (T117.setTop (mkF m 192 #[.val (.int p0), .val (.int p1), .val (.int p2), .val (.int p3), .val (.int p4), .val (.int p5), .val (.int cc), .val (.int (2 : Int32)), .val (.ref b4), .val (.ref b23), .val (.ref b45), .val (.ref gb117), .unset] [(.int (2 : Int32)), (.int cc)])) t → Steps p.tables e below (s₁.setTop (entryFrame m #[(.int p0), (.int p1), (.int p2), (.int p3), (.int p4), (.int p5)] maxLocals)) t := by
      intro t k
      refine a119 t ?_
      show Steps p.tables e below (T117.setTop (mkF m 188 #[.val (.int p0), .val (.int p1), .val (.int p2), .val (.int p3), .val (.int p4), .val (.int p5), .val (.int cc), .val (.int (2 : Int32)), .val (.ref b4), .val (.ref b23), .val (.ref b45), .val (.ref gb117), .unset] [])) _
      refine XS.iload X117.here hx rfl (hb hby at_188) rfl ?_
      refine XS.iload X117.here hx rfl (hb hby at_190) rfl ?_
      exact k
    obtain ⟨_, _, ⟨T121, L121, k121, n121⟩, -, X121, ⟨Lc121, hQ121, l121, y121, z121⟩, st121⟩ := Jvm.LawKit.callS X117 hx (y := (⟨"java/lang/Math", "min", "(II)I"⟩ : MethodName)) hown (mvT hZ (hw _ (List.mem_of_getElem? (i := 34) rfl))) (mvT hZ (hw _ (List.mem_of_getElem? (i := 27) rfl))) (mvT hZ (hw _ (List.mem_of_getElem? (i := 28) rfl))) (mvT hZ (hw _ (List.mem_of_getElem? (i := 29) rfl))) (by decide) (backOf (W := 0) (rmMin l Z a0 hw [] cc (2 : Int32) T117.heap n0 (Nat.le_trans (Nat.le_trans (Nat.le_trans (Nat.le_trans (Nat.le_trans (Nat.le_trans (Nat.le_trans (Nat.le_trans (Nat.le_trans (Nat.le_trans (Nat.le_trans (Nat.le_trans (Nat.le_trans (Nat.le_trans (Nat.le_trans Z0 E4.1) (Keep.of_wr W8).1) (Keep.of_wr W12).1) (Keep.of_wr W16).1) (Keep.of_wr W20).1) E23.1) (Keep.of_wr W28).1) (Keep.of_wr W33).1) (Keep.of_wr W38).1) (Keep.of_wr W43).1) E45.1) K48q.1) K107q.1) K114q.1) K117q.1) ) hZ (hw _ (List.mem_of_getElem? (i := 29) rfl)) (hw _ (List.mem_of_getElem? (i := 28) rfl)) (by decide) (by decide)) (g := (mkF m 192 #[.val (.int p0), .val (.int p1), .val (.int p2), .val (.int p3), .val (.int p4), .val (.int p5), .val (.int cc), .val (.int (2 : Int32)), .val (.ref b4), .val (.ref b23), .val (.ref b45), .val (.ref gb117), .unset] [(.int (2 : Int32)), (.int cc)])) rfl (by rw [hml]; rfl) (argsL := [(.int cc), (.int (2 : Int32))]) (rest := []) (lenOf own_pd0 rfl) rfl (by show 2 * 0 + _ ≤ _; exact Nat.le_of_eq rfl) (hb hby at_192) (fun _ _ => ⟨rfl, rfl, (by decide : 6 + 0 ≤ _), (by decide : 26 + 0 ≤ _)⟩)
    dsimp only [Pt.U, Pt.locs, Pt.cells, Pt.slots] at X121 l121 y121 z121 st121 hQ121
    subst l121 y121 z121
    obtain ⟨rfl, N121q, e121q⟩ := hQ121
    have N121 := Fr.app N117 N121q
    have a122 : ∀ t, Steps p.tables e below (T121.setTop (mkF m 195 #[.val (.int p0), .val (.int p1), .val (.int p2), .val (.int p3), .val (.int p4), .val (.int p5), .val (.int cc), .val (.int (2 : Int32)), .val (.ref b4), .val (.ref b23), .val (.ref b45), .val (.ref gb117), .unset] [(.int (if (2 : Int32) < cc then (2 : Int32) else cc))])) t → Steps p.tables e below (s₁.setTop (entryFrame m #[(.int p0), (.int p1), (.int p2), (.int p3), (.int p4), (.int p5)] maxLocals)) t := fun t k => a120 t (st121 t k)
    have a123 : ∀ t, Steps p.tables e below (T121.setTop (mkF m 199 #[.val (.int p0), .val (.int p1), .val (.int p2), .val (.int p3), .val (.int p4), .val (.int p5), .val (.int cc), .val (.int (2 : Int32)), .val (.ref b4), .val (.ref b23), .val (.ref b45), .val (.ref gb117), .val (.int (if (2 : Int32) < cc then (2 : Int32) else cc))] [(.ref gb117)])) t → Steps p.tables e below (s₁.setTop (entryFrame m #[(.int p0), (.int p1), (.int p2), (.int p3), (.int p4), (.int p5)] maxLocals)) t := by
      intro t k
      refine a122 t ?_
      show Steps p.tables e below (T121.setTop (mkF m 195 #[.val (.int p0), .val (.int p1), .val (.int p2), .val (.int p3), .val (.int p4), .val (.int p5), .val (.int cc), .val (.int (2 : Int32)), .val (.ref b4), .val (.ref b23), .val (.ref b45), .val (.ref gb117), .unset] [(.int (if (2 : Int32) < cc then (2 : Int32) else cc))])) _
      refine XS.istore X121.here hx rfl (hb hby at_195) rfl (l' := #[.val (.int p0), .val (.int p1), .val (.int p2), .val (.int p3), .val (.int p4), .val (.int p5), .val (.int cc), .val (.int (2 : Int32)), .val (.ref b4), .val (.ref b23), .val (.ref b45), .val (.ref gb117), .val (.int (if (2 : Int32) < cc then (2 : Int32) else cc))]) rfl ?_
      refine XS.aload X121.here hx rfl (hb hby at_197) rfl rfl ?_
      exact k
    obtain ⟨cl124, Ar124, qc124, Sz124, Nn124, Hs124, Gs124⟩ := id VG117
    have a125 : ∀ t, Steps p.tables e below (T121.setTop (mkF m 218 #[.val (.int p0), .val (.int p1), .val (.int p2), .val (.int p3), .val (.int p4), .val (.int p5), .val (.int cc), .val (.int (2 : Int32)), .val (.ref b4), .val (.ref b23), .val (.ref b45), .val (.ref gb117), .val (.int (if (2 : Int32) < cc then (2 : Int32) else cc))] [(.int (0 : Int32)), (.int cc), (.int (2 : Int32)), (.ref b23), (.ref b4), (.ref gb117)])) t → Steps p.tables e below (s₁.setTop (entryFrame m #[(.int p0), (.int p1), (.int p2), (.int p3), (.int p4), (.int p5)] maxLocals)) t := by
      intro t k
      refine a123 t ?_
      show Steps p.tables e below (T121.setTop (mkF m 199 #[.val (.int p0), .val (.int p1), .val (.int p2), .val (.int p3), .val (.int p4), .val (.int p5), .val (.int cc), .val (.int (2 : Int32)), .val (.ref b4), .val (.ref b23), .val (.ref b45), .val (.ref gb117), .val (.int (if (2 : Int32) < cc then (2 : Int32) else cc))] [(.ref gb117)])) _
      refine X121.arraylength hx (by rw [e121q]; exact Ar124.1) (State.isArrayOf_alike hZ.alike Ar124.2.1) (g := (mkF m 199 #[.val (.int p0), .val (.int p1), .val (.int p2), .val (.int p3), .val (.int p4), .val (.int p5), .val (.int cc), .val (.int (2 : Int32)), .val (.ref b4), .val (.ref b23), .val (.ref b45), .val (.ref gb117), .val (.int (if (2 : Int32) < cc then (2 : Int32) else cc))] [(.ref gb117)])) rfl rfl (hb hby at_199) _ ?_
      rw [len_of Sz124 Nn124]
      refine XS.iload X121.here hx rfl (hb hby at_200) rfl ?_
      refine XS.icmpYes X121.here hx rfl (pc0 := 202) (pc' := 207) rfl (hb hby at_202) rfl (teq (own_len hcc.1 (show (2 : Int32).toInt = ((2 : Nat) : Int) by decide) (by rw [← hnear.1]; exact hz114))).1 (by decide) (by decide) ?_
      refine XS.aload X121.here hx rfl (hb hby at_207) rfl rfl ?_
      refine XS.aload X121.here hx rfl (hb hby at_209) rfl rfl ?_
      refine XS.aload X121.here hx rfl (hb hby at_211) rfl rfl ?_
      refine XS.iload X121.here hx rfl (hb hby at_213) rfl ?_
      refine XS.iload X121.here hx rfl (hb hby at_215) rfl ?_
      refine XS.iconst X121.here hx rfl (hb hby at_217) ?_
      exact k
    obtain ⟨_, _, ⟨T126, L126, k126, n126⟩, -, X126, ⟨Lc126, hQ126, l126, y126, z126⟩, st126⟩ := Jvm.LawKit.callS X121 hx (y := (⟨"com/example/tillerfront/tillerfront/engine/NearestOfferPinLaw", "ok", "([I[I[DIII)Z"⟩ : MethodName)) hown (mvT hZ (hw _ (List.mem_of_getElem? (i := 35) rfl))) (mvT hZ (hw _ (List.mem_of_getElem? (i := 36) rfl))) (mvT hZ (hw _ (List.mem_of_getElem? (i := 37) rfl))) (mvT hZ (hw _ (List.mem_of_getElem? (i := 38) rfl))) (by decide) (backOf (W := 0) (rmOk l Z a0 hw [] gb117 b4 b23 (2 : Int32) cc (0 : Int32) kg117 kk4 kk23 sq114 ((runP (0 : Int32) cN [p0, p1, p2, p3] [e0, e1, e2, e3] 2).1.take (runP (0 : Int32) cN [p0, p1, p2, p3] [e0, e1, e2, e3] 2).2.2) [p0, p1, p2, p3] [e0, e1, e2, e3] (runP (0 : Int32) cN [p0, p1, p2, p3] [e0, e1, e2, e3] 2).2.2 2 cN 0 fv T117.heap n0 (Nat.le_trans (Nat.le_trans (Nat.le_trans (Nat.le_trans (Nat.le_trans (Nat.le_trans (Nat.le_trans (Nat.le_trans (Nat.le_trans (Nat.le_trans (Nat.le_trans (Nat.le_trans (Nat.le_trans (Nat.le_trans (Nat.le_trans Z0 E4.1) (Keep.of_wr W8).1) (Keep.of_wr W12).1) (Keep.of_wr W16).1) (Keep.of_wr W20).1) E23.1) (Keep.of_wr W28).1) (Keep.of_wr W33).1) (Keep.of_wr W38).1) (Keep.of_wr W43).1) E45.1) K48q.1) K107q.1) K114q.1) K117q.1) hf VG117 ((((((Arv.other (Arv.other (Arv.other (Arv.other (V20.ext E23) W28 (Nat.ne_of_lt (Nat.lt_of_lt_of_le V20.lt (Nat.le_of_eq g23.symm)))) W33 (Nat.ne_of_lt (Nat.lt_of_lt_of_le V20.lt (Nat.le_of_eq g23.symm)))) W38 (Nat.ne_of_lt (Nat.lt_of_lt_of_le V20.lt (Nat.le_of_eq g23.symm)))) W43 (Nat.ne_of_lt (Nat.lt_of_lt_of_le V20.lt (Nat.le_of_eq g23.symm)))).ext E45).keep K48q (ninS (Nat.ne_of_lt (Nat.lt_of_lt_of_le (Arv.other (Arv.other (Arv.other (Arv.other (V20.ext E23) W28 (Nat.ne_of_lt (Nat.lt_of_lt_of_le V20.lt (Nat.le_of_eq g23.symm)))) W33 (Nat.ne_of_lt (Nat.lt_of_lt_of_le V20.lt (Nat.le_of_eq g23.symm)))) W38 (Nat.ne_of_lt (Nat.lt_of_lt_of_le V20.lt (Nat.le_of_eq g23.symm)))) W43 (Nat.ne_of_lt (Nat.lt_of_lt_of_le V20.lt (Nat.le_of_eq g23.symm)))).lt (Nat.le_of_eq g45.symm))) nin0)).keep K107q (ninS (Nat.ne_of_lt (Nat.lt_of_lt_of_le (Arv.other (Arv.other (Arv.other (Arv.other (V20.ext E23) W28 (Nat.ne_of_lt (Nat.lt_of_lt_of_le V20.lt (Nat.le_of_eq g23.symm)))) W33 (Nat.ne_of_lt (Nat.lt_of_lt_of_le V20.lt (Nat.le_of_eq g23.symm)))) W38 (Nat.ne_of_lt (Nat.lt_of_lt_of_le V20.lt (Nat.le_of_eq g23.symm)))) W43 (Nat.ne_of_lt (Nat.lt_of_lt_of_le V20.lt (Nat.le_of_eq g23.symm)))).lt (Nat.le_of_eq g45.symm))) (ninS (Nat.ne_of_lt (Nat.lt_of_lt_of_le ((Arv.other (Arv.other (Arv.other (Arv.other (V20.ext E23) W28 (Nat.ne_of_lt (Nat.lt_of_lt_of_le V20.lt (Nat.le_of_eq g23.symm)))) W33 (Nat.ne_of_lt (Nat.lt_of_lt_of_le V20.lt (Nat.le_of_eq g23.symm)))) W38 (Nat.ne_of_lt (Nat.lt_of_lt_of_le V20.lt (Nat.le_of_eq g23.symm)))) W43 (Nat.ne_of_lt (Nat.lt_of_lt_of_le V20.lt (Nat.le_of_eq g23.symm)))).ext E45).lt SI48)) (ninS (Nat.ne_of_lt (Nat.lt_of_lt_of_le ((Arv.other (Arv.other (Arv.other (Arv.other (V20.ext E23) W28 (Nat.ne_of_lt (Nat.lt_of_lt_of_le V20.lt (Nat.le_of_eq g23.symm)))) W33 (Nat.ne_of_lt (Nat.lt_of_lt_of_le V20.lt (Nat.le_of_eq g23.symm)))) W38 (Nat.ne_of_lt (Nat.lt_of_lt_of_le V20.lt (Nat.le_of_eq g23.symm)))) W43 (Nat.ne_of_lt (Nat.lt_of_lt_of_le V20.lt (Nat.le_of_eq g23.symm)))).ext E45).lt SD48)) nin0)))).keep K114q (ninS (Nat.ne_of_lt (Nat.lt_of_lt_of_le (Arv.other (Arv.other (Arv.other (Arv.other (V20.ext E23) W28 (Nat.ne_of_lt (Nat.lt_of_lt_of_le V20.lt (Nat.le_of_eq g23.symm)))) W33 (Nat.ne_of_lt (Nat.lt_of_lt_of_le V20.lt (Nat.le_of_eq g23.symm)))) W38 (Nat.ne_of_lt (Nat.lt_of_lt_of_le V20.lt (Nat.le_of_eq g23.symm)))) W43 (Nat.ne_of_lt (Nat.lt_of_lt_of_le V20.lt (Nat.le_of_eq g23.symm)))).lt (Nat.le_of_eq g45.symm))) (ninS (Nat.ne_of_lt (Nat.lt_of_lt_of_le ((Arv.other (Arv.other (Arv.other (Arv.other (V20.ext E23) W28 (Nat.ne_of_lt (Nat.lt_of_lt_of_le V20.lt (Nat.le_of_eq g23.symm)))) W33 (Nat.ne_of_lt (Nat.lt_of_lt_of_le V20.lt (Nat.le_of_eq g23.symm)))) W38 (Nat.ne_of_lt (Nat.lt_of_lt_of_le V20.lt (Nat.le_of_eq g23.symm)))) W43 (Nat.ne_of_lt (Nat.lt_of_lt_of_le V20.lt (Nat.le_of_eq g23.symm)))).ext E45).lt SI48)) (ninS (Nat.ne_of_lt (Nat.lt_of_lt_of_le ((Arv.other (Arv.other (Arv.other (Arv.other (V20.ext E23) W28 (Nat.ne_of_lt (Nat.lt_of_lt_of_le V20.lt (Nat.le_of_eq g23.symm)))) W33 (Nat.ne_of_lt (Nat.lt_of_lt_of_le V20.lt (Nat.le_of_eq g23.symm)))) W38 (Nat.ne_of_lt (Nat.lt_of_lt_of_le V20.lt (Nat.le_of_eq g23.symm)))) W43 (Nat.ne_of_lt (Nat.lt_of_lt_of_le V20.lt (Nat.le_of_eq g23.symm)))).ext E45).lt SD48)) nin0)))).keep K117q nin0) (((((V43.ext E45).keep K48q (ninS (Nat.ne_of_lt (Nat.lt_of_lt_of_le V43.lt (Nat.le_of_eq g45.symm))) nin0)).keep K107q (ninS (Nat.ne_of_lt (Nat.lt_of_lt_of_le V43.lt (Nat.le_of_eq g45.symm))) (ninS (Nat.ne_of_lt (Nat.lt_of_lt_of_le (V43.ext E45).lt SI48)) (ninS (Nat.ne_of_lt (Nat.lt_of_lt_of_le (V43.ext E45).lt SD48)) nin0)))).keep K114q (ninS (Nat.ne_of_lt (Nat.lt_of_lt_of_le V43.lt (Nat.le_of_eq g45.symm))) (ninS (Nat.ne_of_lt (Nat.lt_of_lt_of_le (V43.ext E45).lt SI48)) (ninS (Nat.ne_of_lt (Nat.lt_of_lt_of_le (V43.ext E45).lt SD48)) nin0)))).keep K117q nin0) (ds4 he0 he1 he2 he3) hz114 (by decide) hcc.1 (by decide) (by decide) (own_fin hnear (by decide))) hZ (hw _ (List.mem_of_getElem? (i := 38) rfl)) (hw _ (List.mem_of_getElem? (i := 37) rfl)) (by decide) (by decide)) (g := (mkF m 218 #[.val (.int p0), .val (.int p1), .val (.int p2), .val (.int p3), .val (.int p4), .val (.int p5), .val (.int cc), .val (.int (2 : Int32)), .val (.ref b4), .val (.ref b23), .val (.ref b45), .val (.ref gb117), .val (.int (if (2 : Int32) < cc then (2 : Int32) else cc))] [(.int (0 : Int32)), (.int cc), (.int (2 : Int32)), (.ref b23), (.ref b4), (.ref gb117)])) rfl (by rw [hml]; rfl) (argsL := [(.ref gb117), (.ref b4), (.ref b23), (.int (2 : Int32)), (.int cc), (.int (0 : Int32))]) (rest := []) (lenOf own_pd6 rfl) rfl (by show 2 * 0 + _ ≤ _; exact Nat.le_of_eq rfl) (hb hby at_218) (fun _ _ => ⟨rfl, e121q, (by decide : 6 + 0 ≤ _), (by decide : 26 + 0 ≤ _)⟩)
    dsimp only [Pt.U, Pt.locs, Pt.cells, Pt.slots] at X126 l126 y126 z126 st126 hQ126
    subst l126 y126 z126
    obtain ⟨rfl, N126q, e126q⟩ := hQ126
    have N126 := Fr.app N121 N126q
    have a127 : ∀ t, Steps p.tables e below (T126.setTop (mkF m 221 #[.val (.int p0), .val (.int p1), .val (.int p2), .val (.int p3), .val (.int p4), .val (.int p5), .val (.int cc), .val (.int (2 : Int32)), .val (.ref b4), .val (.ref b23), .val (.ref b45), .val (.ref gb117), .val (.int (if (2 : Int32) < cc then (2 : Int32) else cc))] [(.int (1 : Int32))])) t → Steps p.tables e below (s₁.setTop (entryFrame m #[(.int p0), (.int p1), (.int p2), (.int p3), (.int p4), (.int p5)] maxLocals)) t := fun t k => a125 t (st126 t k)
    have a128 : ∀ t, Steps p.tables e below (T126.setTop (mkF m 235 #[.val (.int p0), .val (.int p1), .val (.int p2), .val (.int p3), .val (.int p4), .val (.int p5), .val (.int cc), .val (.int (2 : Int32)), .val (.ref b4), .val (.ref b23), .val (.ref b45), .val (.ref gb117), .val (.int (if (2 : Int32) < cc then (2 : Int32) else cc))] [(.int (1 : Int32)), (.int cc), (.int (2 : Int32)), (.ref b23), (.ref b4), (.ref gb117)])) t → Steps p.tables e below (s₁.setTop (entryFrame m #[(.int p0), (.int p1), (.int p2), (.int p3), (.int p4), (.int p5)] maxLocals)) t := by
      intro t k
      refine a127 t ?_
      show Steps p.tables e below (T126.setTop (mkF m 221 #[.val (.int p0), .val (.int p1), .val (.int p2), .val (.int p3), .val (.int p4), .val (.int p5), .val (.int cc), .val (.int (2 : Int32)), .val (.ref b4), .val (.ref b23), .val (.ref b45), .val (.ref gb117), .val (.int (if (2 : Int32) < cc then (2 : Int32) else cc))] [(.int (1 : Int32))])) _
      refine XS.ifNo X126.here hx rfl (hb hby at_221) rfl ((if0 _ _).trans (feq (by decide)).1) ?_
      refine XS.aload X126.here hx rfl (hb hby at_224) rfl rfl ?_
      refine XS.aload X126.here hx rfl (hb hby at_226) rfl rfl ?_
      refine XS.aload X126.here hx rfl (hb hby at_228) rfl rfl ?_
      refine XS.iload X126.here hx rfl (hb hby at_230) rfl ?_
      refine XS.iload X126.here hx rfl (hb hby at_232) rfl ?_
      refine XS.iconst X126.here hx rfl (hb hby at_234) ?_
      exact k
    obtain ⟨_, _, ⟨T129, L129, k129, n129⟩, -, X129, ⟨Lc129, hQ129, l129, y129, z129⟩, st129⟩ := Jvm.LawKit.callS X126 hx (y := (⟨"com/example/tillerfront/tillerfront/engine/NearestOfferPinLaw", "ok", "([I[I[DIII)Z"⟩ : MethodName)) hown (mvT hZ (hw _ (List.mem_of_getElem? (i := 35) rfl))) (mvT hZ (hw _ (List.mem_of_getElem? (i := 36) rfl))) (mvT hZ (hw _ (List.mem_of_getElem? (i := 37) rfl))) (mvT hZ (hw _ (List.mem_of_getElem? (i := 38) rfl))) (by decide) (backOf (W := 0) (rmOk l Z a0 hw [] gb117 b4 b23 (2 : Int32) cc (1 : Int32) kg117 kk4 kk23 sq114 ((runP (0 : Int32) cN [p0, p1, p2, p3] [e0, e1, e2, e3] 2).1.take (runP (0 : Int32) cN [p0, p1, p2, p3] [e0, e1, e2, e3] 2).2.2) [p0, p1, p2, p3] [e0, e1, e2, e3] (runP (0 : Int32) cN [p0, p1, p2, p3] [e0, e1, e2, e3] 2).2.2 2 cN 1 fv T117.heap n0 (Nat.le_trans (Nat.le_trans (Nat.le_trans (Nat.le_trans (Nat.le_trans (Nat.le_trans (Nat.le_trans (Nat.le_trans (Nat.le_trans (Nat.le_trans (Nat.le_trans (Nat.le_trans (Nat.le_trans (Nat.le_trans (Nat.le_trans Z0 E4.1) (Keep.of_wr W8).1) (Keep.of_wr W12).1) (Keep.of_wr W16).1) (Keep.of_wr W20).1) E23.1) (Keep.of_wr W28).1) (Keep.of_wr W33).1) (Keep.of_wr W38).1) (Keep.of_wr W43).1) E45.1) K48q.1) K107q.1) K114q.1) K117q.1) hf VG117 ((((((Arv.other (Arv.other (Arv.other (Arv.other (V20.ext E23) W28 (Nat.ne_of_lt (Nat.lt_of_lt_of_le V20.lt (Nat.le_of_eq g23.symm)))) W33 (Nat.ne_of_lt (Nat.lt_of_lt_of_le V20.lt (Nat.le_of_eq g23.symm)))) W38 (Nat.ne_of_lt (Nat.lt_of_lt_of_le V20.lt (Nat.le_of_eq g23.symm)))) W43 (Nat.ne_of_lt (Nat.lt_of_lt_of_le V20.lt (Nat.le_of_eq g23.symm)))).ext E45).keep K48q (ninS (Nat.ne_of_lt (Nat.lt_of_lt_of_le (Arv.other (Arv.other (Arv.other (Arv.other (V20.ext E23) W28 (Nat.ne_of_lt (Nat.lt_of_lt_of_le V20.lt (Nat.le_of_eq g23.symm)))) W33 (Nat.ne_of_lt (Nat.lt_of_lt_of_le V20.lt (Nat.le_of_eq g23.symm)))) W38 (Nat.ne_of_lt (Nat.lt_of_lt_of_le V20.lt (Nat.le_of_eq g23.symm)))) W43 (Nat.ne_of_lt (Nat.lt_of_lt_of_le V20.lt (Nat.le_of_eq g23.symm)))).lt (Nat.le_of_eq g45.symm))) nin0)).keep K107q (ninS (Nat.ne_of_lt (Nat.lt_of_lt_of_le (Arv.other (Arv.other (Arv.other (Arv.other (V20.ext E23) W28 (Nat.ne_of_lt (Nat.lt_of_lt_of_le V20.lt (Nat.le_of_eq g23.symm)))) W33 (Nat.ne_of_lt (Nat.lt_of_lt_of_le V20.lt (Nat.le_of_eq g23.symm)))) W38 (Nat.ne_of_lt (Nat.lt_of_lt_of_le V20.lt (Nat.le_of_eq g23.symm)))) W43 (Nat.ne_of_lt (Nat.lt_of_lt_of_le V20.lt (Nat.le_of_eq g23.symm)))).lt (Nat.le_of_eq g45.symm))) (ninS (Nat.ne_of_lt (Nat.lt_of_lt_of_le ((Arv.other (Arv.other (Arv.other (Arv.other (V20.ext E23) W28 (Nat.ne_of_lt (Nat.lt_of_lt_of_le V20.lt (Nat.le_of_eq g23.symm)))) W33 (Nat.ne_of_lt (Nat.lt_of_lt_of_le V20.lt (Nat.le_of_eq g23.symm)))) W38 (Nat.ne_of_lt (Nat.lt_of_lt_of_le V20.lt (Nat.le_of_eq g23.symm)))) W43 (Nat.ne_of_lt (Nat.lt_of_lt_of_le V20.lt (Nat.le_of_eq g23.symm)))).ext E45).lt SI48)) (ninS (Nat.ne_of_lt (Nat.lt_of_lt_of_le ((Arv.other (Arv.other (Arv.other (Arv.other (V20.ext E23) W28 (Nat.ne_of_lt (Nat.lt_of_lt_of_le V20.lt (Nat.le_of_eq g23.symm)))) W33 (Nat.ne_of_lt (Nat.lt_of_lt_of_le V20.lt (Nat.le_of_eq g23.symm)))) W38 (Nat.ne_of_lt (Nat.lt_of_lt_of_le V20.lt (Nat.le_of_eq g23.symm)))) W43 (Nat.ne_of_lt (Nat.lt_of_lt_of_le V20.lt (Nat.le_of_eq g23.symm)))).ext E45).lt SD48)) nin0)))).keep K114q (ninS (Nat.ne_of_lt (Nat.lt_of_lt_of_le (Arv.other (Arv.other (Arv.other (Arv.other (V20.ext E23) W28 (Nat.ne_of_lt (Nat.lt_of_lt_of_le V20.lt (Nat.le_of_eq g23.symm)))) W33 (Nat.ne_of_lt (Nat.lt_of_lt_of_le V20.lt (Nat.le_of_eq g23.symm)))) W38 (Nat.ne_of_lt (Nat.lt_of_lt_of_le V20.lt (Nat.le_of_eq g23.symm)))) W43 (Nat.ne_of_lt (Nat.lt_of_lt_of_le V20.lt (Nat.le_of_eq g23.symm)))).lt (Nat.le_of_eq g45.symm))) (ninS (Nat.ne_of_lt (Nat.lt_of_lt_of_le ((Arv.other (Arv.other (Arv.other (Arv.other (V20.ext E23) W28 (Nat.ne_of_lt (Nat.lt_of_lt_of_le V20.lt (Nat.le_of_eq g23.symm)))) W33 (Nat.ne_of_lt (Nat.lt_of_lt_of_le V20.lt (Nat.le_of_eq g23.symm)))) W38 (Nat.ne_of_lt (Nat.lt_of_lt_of_le V20.lt (Nat.le_of_eq g23.symm)))) W43 (Nat.ne_of_lt (Nat.lt_of_lt_of_le V20.lt (Nat.le_of_eq g23.symm)))).ext E45).lt SI48)) (ninS (Nat.ne_of_lt (Nat.lt_of_lt_of_le ((Arv.other (Arv.other (Arv.other (Arv.other (V20.ext E23) W28 (Nat.ne_of_lt (Nat.lt_of_lt_of_le V20.lt (Nat.le_of_eq g23.symm)))) W33 (Nat.ne_of_lt (Nat.lt_of_lt_of_le V20.lt (Nat.le_of_eq g23.symm)))) W38 (Nat.ne_of_lt (Nat.lt_of_lt_of_le V20.lt (Nat.le_of_eq g23.symm)))) W43 (Nat.ne_of_lt (Nat.lt_of_lt_of_le V20.lt (Nat.le_of_eq g23.symm)))).ext E45).lt SD48)) nin0)))).keep K117q nin0) (((((V43.ext E45).keep K48q (ninS (Nat.ne_of_lt (Nat.lt_of_lt_of_le V43.lt (Nat.le_of_eq g45.symm))) nin0)).keep K107q (ninS (Nat.ne_of_lt (Nat.lt_of_lt_of_le V43.lt (Nat.le_of_eq g45.symm))) (ninS (Nat.ne_of_lt (Nat.lt_of_lt_of_le (V43.ext E45).lt SI48)) (ninS (Nat.ne_of_lt (Nat.lt_of_lt_of_le (V43.ext E45).lt SD48)) nin0)))).keep K114q (ninS (Nat.ne_of_lt (Nat.lt_of_lt_of_le V43.lt (Nat.le_of_eq g45.symm))) (ninS (Nat.ne_of_lt (Nat.lt_of_lt_of_le (V43.ext E45).lt SI48)) (ninS (Nat.ne_of_lt (Nat.lt_of_lt_of_le (V43.ext E45).lt SD48)) nin0)))).keep K117q nin0) (ds4 he0 he1 he2 he3) hz114 (by decide) hcc.1 (by decide) (by decide) (own_fin hnear (by decide))) hZ (hw _ (List.mem_of_getElem? (i := 38) rfl)) (hw _ (List.mem_of_getElem? (i := 37) rfl)) (by decide) (by decide)) (g := (mkF m 235 #[.val (.int p0), .val (.int p1), .val (.int p2), .val (.int p3), .val (.int p4), .val (.int p5), .val (.int cc), .val (.int (2 : Int32)), .val (.ref b4), .val (.ref b23), .val (.ref b45), .val (.ref gb117), .val (.int (if (2 : Int32) < cc then (2 : Int32) else cc))] [(.int (1 : Int32)), (.int cc), (.int (2 : Int32)), (.ref b23), (.ref b4), (.ref gb117)])) rfl (by rw [hml]; rfl) (argsL := [(.ref gb117), (.ref b4), (.ref b23), (.int (2 : Int32)), (.int cc), (.int (1 : Int32))]) (rest := []) (lenOf own_pd6 rfl) rfl (by show 2 * 0 + _ ≤ _; exact Nat.le_of_eq rfl) (hb hby at_235) (fun _ _ => ⟨rfl, e126q, (by decide : 6 + 0 ≤ _), (by decide : 26 + 0 ≤ _)⟩)
    dsimp only [Pt.U, Pt.locs, Pt.cells, Pt.slots] at X129 l129 y129 z129 st129 hQ129
    subst l129 y129 z129
    obtain ⟨rfl, N129q, e129q⟩ := hQ129
    have N129 := Fr.app N126 N129q
    have a130 : ∀ t, Steps p.tables e below (T129.setTop (mkF m 238 #[.val (.int p0), .val (.int p1), .val (.int p2), .val (.int p3), .val (.int p4), .val (.int p5), .val (.int cc), .val (.int (2 : Int32)), .val (.ref b4), .val (.ref b23), .val (.ref b45), .val (.ref gb117), .val (.int (if (2 : Int32) < cc then (2 : Int32) else cc))] [(.int (1 : Int32))])) t → Steps p.tables e below (s₁.setTop (entryFrame m #[(.int p0), (.int p1), (.int p2), (.int p3), (.int p4), (.int p5)] maxLocals)) t := fun t k => a128 t (st129 t k)
    have a131 : ∀ t, Steps p.tables e below (T129.setTop (mkF m 252 #[.val (.int p0), .val (.int p1), .val (.int p2), .val (.int p3), .val (.int p4), .val (.int p5), .val (.int cc), .val (.int (2 : Int32)), .val (.ref b4), .val (.ref b23), .val (.ref b45), .val (.ref gb117), .val (.int (if (2 : Int32) < cc then (2 : Int32) else cc))] [(.int (2 : Int32)), (.int cc), (.int (2 : Int32)), (.ref b23), (.ref b4), (.ref gb117)])) t → Steps p.tables e below (s₁.setTop (entryFrame m #[(.int p0), (.int p1), (.int p2), (.int p3), (.int p4), (.int p5)] maxLocals)) t := by
      intro t k
      refine a130 t ?_
      show Steps p.tables e below (T129.setTop (mkF m 238 #[.val (.int p0), .val (.int p1), .val (.int p2), .val (.int p3), .val (.int p4), .val (.int p5), .val (.int cc), .val (.int (2 : Int32)), .val (.ref b4), .val (.ref b23), .val (.ref b45), .val (.ref gb117), .val (.int (if (2 : Int32) < cc then (2 : Int32) else cc))] [(.int (1 : Int32))])) _
      refine XS.ifNo X129.here hx rfl (hb hby at_238) rfl ((if0 _ _).trans (feq (by decide)).1) ?_
      refine XS.aload X129.here hx rfl (hb hby at_241) rfl rfl ?_
      refine XS.aload X129.here hx rfl (hb hby at_243) rfl rfl ?_
      refine XS.aload X129.here hx rfl (hb hby at_245) rfl rfl ?_
      refine XS.iload X129.here hx rfl (hb hby at_247) rfl ?_
      refine XS.iload X129.here hx rfl (hb hby at_249) rfl ?_
      refine XS.iconst X129.here hx rfl (hb hby at_251) ?_
      exact k
    obtain ⟨_, _, ⟨T132, L132, k132, n132⟩, -, X132, ⟨Lc132, hQ132, l132, y132, z132⟩, st132⟩ := Jvm.LawKit.callS X129 hx (y := (⟨"com/example/tillerfront/tillerfront/engine/NearestOfferPinLaw", "ok", "([I[I[DIII)Z"⟩ : MethodName)) hown (mvT hZ (hw _ (List.mem_of_getElem? (i := 35) rfl))) (mvT hZ (hw _ (List.mem_of_getElem? (i := 36) rfl))) (mvT hZ (hw _ (List.mem_of_getElem? (i := 37) rfl))) (mvT hZ (hw _ (List.mem_of_getElem? (i := 38) rfl))) (by decide) (backOf (W := 0) (rmOk l Z a0 hw [] gb117 b4 b23 (2 : Int32) cc (2 : Int32) kg117 kk4 kk23 sq114 ((runP (0 : Int32) cN [p0, p1, p2, p3] [e0, e1, e2, e3] 2).1.take (runP (0 : Int32) cN [p0, p1, p2, p3] [e0, e1, e2, e3] 2).2.2) [p0, p1, p2, p3] [e0, e1, e2, e3] (runP (0 : Int32) cN [p0, p1, p2, p3] [e0, e1, e2, e3] 2).2.2 2 cN 2 fv T117.heap n0 (Nat.le_trans (Nat.le_trans (Nat.le_trans (Nat.le_trans (Nat.le_trans (Nat.le_trans (Nat.le_trans (Nat.le_trans (Nat.le_trans (Nat.le_trans (Nat.le_trans (Nat.le_trans (Nat.le_trans (Nat.le_trans (Nat.le_trans Z0 E4.1) (Keep.of_wr W8).1) (Keep.of_wr W12).1) (Keep.of_wr W16).1) (Keep.of_wr W20).1) E23.1) (Keep.of_wr W28).1) (Keep.of_wr W33).1) (Keep.of_wr W38).1) (Keep.of_wr W43).1) E45.1) K48q.1) K107q.1) K114q.1) K117q.1) hf VG117 ((((((Arv.other (Arv.other (Arv.other (Arv.other (V20.ext E23) W28 (Nat.ne_of_lt (Nat.lt_of_lt_of_le V20.lt (Nat.le_of_eq g23.symm)))) W33 (Nat.ne_of_lt (Nat.lt_of_lt_of_le V20.lt (Nat.le_of_eq g23.symm)))) W38 (Nat.ne_of_lt (Nat.lt_of_lt_of_le V20.lt (Nat.le_of_eq g23.symm)))) W43 (Nat.ne_of_lt (Nat.lt_of_lt_of_le V20.lt (Nat.le_of_eq g23.symm)))).ext E45).keep K48q (ninS (Nat.ne_of_lt (Nat.lt_of_lt_of_le (Arv.other (Arv.other (Arv.other (Arv.other (V20.ext E23) W28 (Nat.ne_of_lt (Nat.lt_of_lt_of_le V20.lt (Nat.le_of_eq g23.symm)))) W33 (Nat.ne_of_lt (Nat.lt_of_lt_of_le V20.lt (Nat.le_of_eq g23.symm)))) W38 (Nat.ne_of_lt (Nat.lt_of_lt_of_le V20.lt (Nat.le_of_eq g23.symm)))) W43 (Nat.ne_of_lt (Nat.lt_of_lt_of_le V20.lt (Nat.le_of_eq g23.symm)))).lt (Nat.le_of_eq g45.symm))) nin0)).keep K107q (ninS (Nat.ne_of_lt (Nat.lt_of_lt_of_le (Arv.other (Arv.other (Arv.other (Arv.other (V20.ext E23) W28 (Nat.ne_of_lt (Nat.lt_of_lt_of_le V20.lt (Nat.le_of_eq g23.symm)))) W33 (Nat.ne_of_lt (Nat.lt_of_lt_of_le V20.lt (Nat.le_of_eq g23.symm)))) W38 (Nat.ne_of_lt (Nat.lt_of_lt_of_le V20.lt (Nat.le_of_eq g23.symm)))) W43 (Nat.ne_of_lt (Nat.lt_of_lt_of_le V20.lt (Nat.le_of_eq g23.symm)))).lt (Nat.le_of_eq g45.symm))) (ninS (Nat.ne_of_lt (Nat.lt_of_lt_of_le ((Arv.other (Arv.other (Arv.other (Arv.other (V20.ext E23) W28 (Nat.ne_of_lt (Nat.lt_of_lt_of_le V20.lt (Nat.le_of_eq g23.symm)))) W33 (Nat.ne_of_lt (Nat.lt_of_lt_of_le V20.lt (Nat.le_of_eq g23.symm)))) W38 (Nat.ne_of_lt (Nat.lt_of_lt_of_le V20.lt (Nat.le_of_eq g23.symm)))) W43 (Nat.ne_of_lt (Nat.lt_of_lt_of_le V20.lt (Nat.le_of_eq g23.symm)))).ext E45).lt SI48)) (ninS (Nat.ne_of_lt (Nat.lt_of_lt_of_le ((Arv.other (Arv.other (Arv.other (Arv.other (V20.ext E23) W28 (Nat.ne_of_lt (Nat.lt_of_lt_of_le V20.lt (Nat.le_of_eq g23.symm)))) W33 (Nat.ne_of_lt (Nat.lt_of_lt_of_le V20.lt (Nat.le_of_eq g23.symm)))) W38 (Nat.ne_of_lt (Nat.lt_of_lt_of_le V20.lt (Nat.le_of_eq g23.symm)))) W43 (Nat.ne_of_lt (Nat.lt_of_lt_of_le V20.lt (Nat.le_of_eq g23.symm)))).ext E45).lt SD48)) nin0)))).keep K114q (ninS (Nat.ne_of_lt (Nat.lt_of_lt_of_le (Arv.other (Arv.other (Arv.other (Arv.other (V20.ext E23) W28 (Nat.ne_of_lt (Nat.lt_of_lt_of_le V20.lt (Nat.le_of_eq g23.symm)))) W33 (Nat.ne_of_lt (Nat.lt_of_lt_of_le V20.lt (Nat.le_of_eq g23.symm)))) W38 (Nat.ne_of_lt (Nat.lt_of_lt_of_le V20.lt (Nat.le_of_eq g23.symm)))) W43 (Nat.ne_of_lt (Nat.lt_of_lt_of_le V20.lt (Nat.le_of_eq g23.symm)))).lt (Nat.le_of_eq g45.symm))) (ninS (Nat.ne_of_lt (Nat.lt_of_lt_of_le ((Arv.other (Arv.other (Arv.other (Arv.other (V20.ext E23) W28 (Nat.ne_of_lt (Nat.lt_of_lt_of_le V20.lt (Nat.le_of_eq g23.symm)))) W33 (Nat.ne_of_lt (Nat.lt_of_lt_of_le V20.lt (Nat.le_of_eq g23.symm)))) W38 (Nat.ne_of_lt (Nat.lt_of_lt_of_le V20.lt (Nat.le_of_eq g23.symm)))) W43 (Nat.ne_of_lt (Nat.lt_of_lt_of_le V20.lt (Nat.le_of_eq g23.symm)))).ext E45).lt SI48)) (ninS (Nat.ne_of_lt (Nat.lt_of_lt_of_le ((Arv.other (Arv.other (Arv.other (Arv.other (V20.ext E23) W28 (Nat.ne_of_lt (Nat.lt_of_lt_of_le V20.lt (Nat.le_of_eq g23.symm)))) W33 (Nat.ne_of_lt (Nat.lt_of_lt_of_le V20.lt (Nat.le_of_eq g23.symm)))) W38 (Nat.ne_of_lt (Nat.lt_of_lt_of_le V20.lt (Nat.le_of_eq g23.symm)))) W43 (Nat.ne_of_lt (Nat.lt_of_lt_of_le V20.lt (Nat.le_of_eq g23.symm)))).ext E45).lt SD48)) nin0)))).keep K117q nin0) (((((V43.ext E45).keep K48q (ninS (Nat.ne_of_lt (Nat.lt_of_lt_of_le V43.lt (Nat.le_of_eq g45.symm))) nin0)).keep K107q (ninS (Nat.ne_of_lt (Nat.lt_of_lt_of_le V43.lt (Nat.le_of_eq g45.symm))) (ninS (Nat.ne_of_lt (Nat.lt_of_lt_of_le (V43.ext E45).lt SI48)) (ninS (Nat.ne_of_lt (Nat.lt_of_lt_of_le (V43.ext E45).lt SD48)) nin0)))).keep K114q (ninS (Nat.ne_of_lt (Nat.lt_of_lt_of_le V43.lt (Nat.le_of_eq g45.symm))) (ninS (Nat.ne_of_lt (Nat.lt_of_lt_of_le (V43.ext E45).lt SI48)) (ninS (Nat.ne_of_lt (Nat.lt_of_lt_of_le (V43.ext E45).lt SD48)) nin0)))).keep K117q nin0) (ds4 he0 he1 he2 he3) hz114 (by decide) hcc.1 (by decide) (by decide) (own_fin hnear (by decide))) hZ (hw _ (List.mem_of_getElem? (i := 38) rfl)) (hw _ (List.mem_of_getElem? (i := 37) rfl)) (by decide) (by decide)) (g := (mkF m 252 #[.val (.int p0), .val (.int p1), .val (.int p2), .val (.int p3), .val (.int p4), .val (.int p5), .val (.int cc), .val (.int (2 : Int32)), .val (.ref b4), .val (.ref b23), .val (.ref b45), .val (.ref gb117), .val (.int (if (2 : Int32) < cc then (2 : Int32) else cc))] [(.int (2 : Int32)), (.int cc), (.int (2 : Int32)), (.ref b23), (.ref b4), (.ref gb117)])) rfl (by rw [hml]; rfl) (argsL := [(.ref gb117), (.ref b4), (.ref b23), (.int (2 : Int32)), (.int cc), (.int (2 : Int32))]) (rest := []) (lenOf own_pd6 rfl) rfl (by show 2 * 0 + _ ≤ _; exact Nat.le_of_eq rfl) (hb hby at_252) (fun _ _ => ⟨rfl, e129q, (by decide : 6 + 0 ≤ _), (by decide : 26 + 0 ≤ _)⟩)
    dsimp only [Pt.U, Pt.locs, Pt.cells, Pt.slots] at X132 l132 y132 z132 st132 hQ132
    subst l132 y132 z132
    obtain ⟨rfl, N132q, e132q⟩ := hQ132
    have N132 := Fr.app N129 N132q
    have a133 : ∀ t, Steps p.tables e below (T132.setTop (mkF m 255 #[.val (.int p0), .val (.int p1), .val (.int p2), .val (.int p3), .val (.int p4), .val (.int p5), .val (.int cc), .val (.int (2 : Int32)), .val (.ref b4), .val (.ref b23), .val (.ref b45), .val (.ref gb117), .val (.int (if (2 : Int32) < cc then (2 : Int32) else cc))] [(.int (1 : Int32))])) t → Steps p.tables e below (s₁.setTop (entryFrame m #[(.int p0), (.int p1), (.int p2), (.int p3), (.int p4), (.int p5)] maxLocals)) t := fun t k => a131 t (st132 t k)
    have a134 : ∀ t, Steps p.tables e below (T132.setTop (mkF m 269 #[.val (.int p0), .val (.int p1), .val (.int p2), .val (.int p3), .val (.int p4), .val (.int p5), .val (.int cc), .val (.int (2 : Int32)), .val (.ref b4), .val (.ref b23), .val (.ref b45), .val (.ref gb117), .val (.int (if (2 : Int32) < cc then (2 : Int32) else cc))] [(.int (3 : Int32)), (.int cc), (.int (2 : Int32)), (.ref b23), (.ref b4), (.ref gb117)])) t → Steps p.tables e below (s₁.setTop (entryFrame m #[(.int p0), (.int p1), (.int p2), (.int p3), (.int p4), (.int p5)] maxLocals)) t := by
      intro t k
      refine a133 t ?_
      show Steps p.tables e below (T132.setTop (mkF m 255 #[.val (.int p0), .val (.int p1), .val (.int p2), .val (.int p3), .val (.int p4), .val (.int p5), .val (.int cc), .val (.int (2 : Int32)), .val (.ref b4), .val (.ref b23), .val (.ref b45), .val (.ref gb117), .val (.int (if (2 : Int32) < cc then (2 : Int32) else cc))] [(.int (1 : Int32))])) _
      refine XS.ifNo X132.here hx rfl (hb hby at_255) rfl ((if0 _ _).trans (feq (by decide)).1) ?_
      refine XS.aload X132.here hx rfl (hb hby at_258) rfl rfl ?_
      refine XS.aload X132.here hx rfl (hb hby at_260) rfl rfl ?_
      refine XS.aload X132.here hx rfl (hb hby at_262) rfl rfl ?_
      refine XS.iload X132.here hx rfl (hb hby at_264) rfl ?_
      refine XS.iload X132.here hx rfl (hb hby at_266) rfl ?_
      refine XS.iconst X132.here hx rfl (hb hby at_268) ?_
      exact k
    obtain ⟨_, _, ⟨T135, L135, k135, n135⟩, -, X135, ⟨Lc135, hQ135, l135, y135, z135⟩, st135⟩ := Jvm.LawKit.callS X132 hx (y := (⟨"com/example/tillerfront/tillerfront/engine/NearestOfferPinLaw", "ok", "([I[I[DIII)Z"⟩ : MethodName)) hown (mvT hZ (hw _ (List.mem_of_getElem? (i := 35) rfl))) (mvT hZ (hw _ (List.mem_of_getElem? (i := 36) rfl))) (mvT hZ (hw _ (List.mem_of_getElem? (i := 37) rfl))) (mvT hZ (hw _ (List.mem_of_getElem? (i := 38) rfl))) (by decide) (backOf (W := 0) (rmOk l Z a0 hw [] gb117 b4 b23 (2 : Int32) cc (3 : Int32) kg117 kk4 kk23 sq114 ((runP (0 : Int32) cN [p0, p1, p2, p3] [e0, e1, e2, e3] 2).1.take (runP (0 : Int32) cN [p0, p1, p2, p3] [e0, e1, e2, e3] 2).2.2) [p0, p1, p2, p3] [e0, e1, e2, e3] (runP (0 : Int32) cN [p0, p1, p2, p3] [e0, e1, e2, e3] 2).2.2 2 cN 3 fv T117.heap n0 (Nat.le_trans (Nat.le_trans (Nat.le_trans (Nat.le_trans (Nat.le_trans (Nat.le_trans (Nat.le_trans (Nat.le_trans (Nat.le_trans (Nat.le_trans (Nat.le_trans (Nat.le_trans (Nat.le_trans (Nat.le_trans (Nat.le_trans Z0 E4.1) (Keep.of_wr W8).1) (Keep.of_wr W12).1) (Keep.of_wr W16).1) (Keep.of_wr W20).1) E23.1) (Keep.of_wr W28).1) (Keep.of_wr W33).1) (Keep.of_wr W38).1) (Keep.of_wr W43).1) E45.1) K48q.1) K107q.1) K114q.1) K117q.1) hf VG117 ((((((Arv.other (Arv.other (Arv.other (Arv.other (V20.ext E23) W28 (Nat.ne_of_lt (Nat.lt_of_lt_of_le V20.lt (Nat.le_of_eq g23.symm)))) W33 (Nat.ne_of_lt (Nat.lt_of_lt_of_le V20.lt (Nat.le_of_eq g23.symm)))) W38 (Nat.ne_of_lt (Nat.lt_of_lt_of_le V20.lt (Nat.le_of_eq g23.symm)))) W43 (Nat.ne_of_lt (Nat.lt_of_lt_of_le V20.lt (Nat.le_of_eq g23.symm)))).ext E45).keep K48q (ninS (Nat.ne_of_lt (Nat.lt_of_lt_of_le (Arv.other (Arv.other (Arv.other (Arv.other (V20.ext E23) W28 (Nat.ne_of_lt (Nat.lt_of_lt_of_le V20.lt (Nat.le_of_eq g23.symm)))) W33 (Nat.ne_of_lt (Nat.lt_of_lt_of_le V20.lt (Nat.le_of_eq g23.symm)))) W38 (Nat.ne_of_lt (Nat.lt_of_lt_of_le V20.lt (Nat.le_of_eq g23.symm)))) W43 (Nat.ne_of_lt (Nat.lt_of_lt_of_le V20.lt (Nat.le_of_eq g23.symm)))).lt (Nat.le_of_eq g45.symm))) nin0)).keep K107q (ninS (Nat.ne_of_lt (Nat.lt_of_lt_of_le (Arv.other (Arv.other (Arv.other (Arv.other (V20.ext E23) W28 (Nat.ne_of_lt (Nat.lt_of_lt_of_le V20.lt (Nat.le_of_eq g23.symm)))) W33 (Nat.ne_of_lt (Nat.lt_of_lt_of_le V20.lt (Nat.le_of_eq g23.symm)))) W38 (Nat.ne_of_lt (Nat.lt_of_lt_of_le V20.lt (Nat.le_of_eq g23.symm)))) W43 (Nat.ne_of_lt (Nat.lt_of_lt_of_le V20.lt (Nat.le_of_eq g23.symm)))).lt (Nat.le_of_eq g45.symm))) (ninS (Nat.ne_of_lt (Nat.lt_of_lt_of_le ((Arv.other (Arv.other (Arv.other (Arv.other (V20.ext E23) W28 (Nat.ne_of_lt (Nat.lt_of_lt_of_le V20.lt (Nat.le_of_eq g23.symm)))) W33 (Nat.ne_of_lt (Nat.lt_of_lt_of_le V20.lt (Nat.le_of_eq g23.symm)))) W38 (Nat.ne_of_lt (Nat.lt_of_lt_of_le V20.lt (Nat.le_of_eq g23.symm)))) W43 (Nat.ne_of_lt (Nat.lt_of_lt_of_le V20.lt (Nat.le_of_eq g23.symm)))).ext E45).lt SI48)) (ninS (Nat.ne_of_lt (Nat.lt_of_lt_of_le ((Arv.other (Arv.other (Arv.other (Arv.other (V20.ext E23) W28 (Nat.ne_of_lt (Nat.lt_of_lt_of_le V20.lt (Nat.le_of_eq g23.symm)))) W33 (Nat.ne_of_lt (Nat.lt_of_lt_of_le V20.lt (Nat.le_of_eq g23.symm)))) W38 (Nat.ne_of_lt (Nat.lt_of_lt_of_le V20.lt (Nat.le_of_eq g23.symm)))) W43 (Nat.ne_of_lt (Nat.lt_of_lt_of_le V20.lt (Nat.le_of_eq g23.symm)))).ext E45).lt SD48)) nin0)))).keep K114q (ninS (Nat.ne_of_lt (Nat.lt_of_lt_of_le (Arv.other (Arv.other (Arv.other (Arv.other (V20.ext E23) W28 (Nat.ne_of_lt (Nat.lt_of_lt_of_le V20.lt (Nat.le_of_eq g23.symm)))) W33 (Nat.ne_of_lt (Nat.lt_of_lt_of_le V20.lt (Nat.le_of_eq g23.symm)))) W38 (Nat.ne_of_lt (Nat.lt_of_lt_of_le V20.lt (Nat.le_of_eq g23.symm)))) W43 (Nat.ne_of_lt (Nat.lt_of_lt_of_le V20.lt (Nat.le_of_eq g23.symm)))).lt (Nat.le_of_eq g45.symm))) (ninS (Nat.ne_of_lt (Nat.lt_of_lt_of_le ((Arv.other (Arv.other (Arv.other (Arv.other (V20.ext E23) W28 (Nat.ne_of_lt (Nat.lt_of_lt_of_le V20.lt (Nat.le_of_eq g23.symm)))) W33 (Nat.ne_of_lt (Nat.lt_of_lt_of_le V20.lt (Nat.le_of_eq g23.symm)))) W38 (Nat.ne_of_lt (Nat.lt_of_lt_of_le V20.lt (Nat.le_of_eq g23.symm)))) W43 (Nat.ne_of_lt (Nat.lt_of_lt_of_le V20.lt (Nat.le_of_eq g23.symm)))).ext E45).lt SI48)) (ninS (Nat.ne_of_lt (Nat.lt_of_lt_of_le ((Arv.other (Arv.other (Arv.other (Arv.other (V20.ext E23) W28 (Nat.ne_of_lt (Nat.lt_of_lt_of_le V20.lt (Nat.le_of_eq g23.symm)))) W33 (Nat.ne_of_lt (Nat.lt_of_lt_of_le V20.lt (Nat.le_of_eq g23.symm)))) W38 (Nat.ne_of_lt (Nat.lt_of_lt_of_le V20.lt (Nat.le_of_eq g23.symm)))) W43 (Nat.ne_of_lt (Nat.lt_of_lt_of_le V20.lt (Nat.le_of_eq g23.symm)))).ext E45).lt SD48)) nin0)))).keep K117q nin0) (((((V43.ext E45).keep K48q (ninS (Nat.ne_of_lt (Nat.lt_of_lt_of_le V43.lt (Nat.le_of_eq g45.symm))) nin0)).keep K107q (ninS (Nat.ne_of_lt (Nat.lt_of_lt_of_le V43.lt (Nat.le_of_eq g45.symm))) (ninS (Nat.ne_of_lt (Nat.lt_of_lt_of_le (V43.ext E45).lt SI48)) (ninS (Nat.ne_of_lt (Nat.lt_of_lt_of_le (V43.ext E45).lt SD48)) nin0)))).keep K114q (ninS (Nat.ne_of_lt (Nat.lt_of_lt_of_le V43.lt (Nat.le_of_eq g45.symm))) (ninS (Nat.ne_of_lt (Nat.lt_of_lt_of_le (V43.ext E45).lt SI48)) (ninS (Nat.ne_of_lt (Nat.lt_of_lt_of_le (V43.ext E45).lt SD48)) nin0)))).keep K117q nin0) (ds4 he0 he1 he2 he3) hz114 (by decide) hcc.1 (by decide) (by decide) (own_fin hnear (by decide))) hZ (hw _ (List.mem_of_getElem? (i := 38) rfl)) (hw _ (List.mem_of_getElem? (i := 37) rfl)) (by decide) (by decide)) (g := (mkF m 269 #[.val (.int p0), .val (.int p1), .val (.int p2), .val (.int p3), .val (.int p4), .val (.int p5), .val (.int cc), .val (.int (2 : Int32)), .val (.ref b4), .val (.ref b23), .val (.ref b45), .val (.ref gb117), .val (.int (if (2 : Int32) < cc then (2 : Int32) else cc))] [(.int (3 : Int32)), (.int cc), (.int (2 : Int32)), (.ref b23), (.ref b4), (.ref gb117)])) rfl (by rw [hml]; rfl) (argsL := [(.ref gb117), (.ref b4), (.ref b23), (.int (2 : Int32)), (.int cc), (.int (3 : Int32))]) (rest := []) (lenOf own_pd6 rfl) rfl (by show 2 * 0 + _ ≤ _; exact Nat.le_of_eq rfl) (hb hby at_269) (fun _ _ => ⟨rfl, e132q, (by decide : 6 + 0 ≤ _), (by decide : 26 + 0 ≤ _)⟩)
    dsimp only [Pt.U, Pt.locs, Pt.cells, Pt.slots] at X135 l135 y135 z135 st135 hQ135
    subst l135 y135 z135
    obtain ⟨rfl, N135q, e135q⟩ := hQ135
    have N135 := Fr.app N132 N135q
    have a136 : ∀ t, Steps p.tables e below (T135.setTop (mkF m 272 #[.val (.int p0), .val (.int p1), .val (.int p2), .val (.int p3), .val (.int p4), .val (.int p5), .val (.int cc), .val (.int (2 : Int32)), .val (.ref b4), .val (.ref b23), .val (.ref b45), .val (.ref gb117), .val (.int (if (2 : Int32) < cc then (2 : Int32) else cc))] [(.int (1 : Int32))])) t → Steps p.tables e below (s₁.setTop (entryFrame m #[(.int p0), (.int p1), (.int p2), (.int p3), (.int p4), (.int p5)] maxLocals)) t := fun t k => a134 t (st135 t k)
    have a137 : ∀ t, Steps p.tables e below (T135.setTop (mkF m 280 #[.val (.int p0), .val (.int p1), .val (.int p2), .val (.int p3), .val (.int p4), .val (.int p5), .val (.int cc), .val (.int (2 : Int32)), .val (.ref b4), .val (.ref b23), .val (.ref b45), .val (.ref gb117), .val (.int (if (2 : Int32) < cc then (2 : Int32) else cc))] [(.int (1 : Int32))])) t → Steps p.tables e below (s₁.setTop (entryFrame m #[(.int p0), (.int p1), (.int p2), (.int p3), (.int p4), (.int p5)] maxLocals)) t := by
      intro t k
      refine a136 t ?_
      show Steps p.tables e below (T135.setTop (mkF m 272 #[.val (.int p0), .val (.int p1), .val (.int p2), .val (.int p3), .val (.int p4), .val (.int p5), .val (.int cc), .val (.int (2 : Int32)), .val (.ref b4), .val (.ref b23), .val (.ref b45), .val (.ref gb117), .val (.int (if (2 : Int32) < cc then (2 : Int32) else cc))] [(.int (1 : Int32))])) _
      refine XS.ifNo X135.here hx rfl (hb hby at_272) rfl ((if0 _ _).trans (feq (by decide)).1) ?_
      refine XS.iconst X135.here hx rfl (hb hby at_275) ?_
      refine XS.goto X135.here hx rfl (pc0 := 276) (pc' := 280) rfl (hb hby at_276) (by decide) (by decide) ?_
      exact k
    obtain ⟨fs, hr, hrun, hended, hW, hsame⟩ := X135.leave (v := some (.int (1 : Int32))) (fun h => by rw [Bd.returns] at h; cases h)
    refine ⟨_, _, a137 _ ?_, hrun, hended, _, _, rfl, ?_, ⟨_, rfl⟩, hW, hsame.mono (by decide) (by decide)⟩
    · show Steps p.tables e below (T135.setTop (mkF m 280 #[.val (.int p0), .val (.int p1), .val (.int p2), .val (.int p3), .val (.int p4), .val (.int p5), .val (.int cc), .val (.int (2 : Int32)), .val (.ref b4), .val (.ref b23), .val (.ref b45), .val (.ref gb117), .val (.int (if (2 : Int32) < cc then (2 : Int32) else cc))] [(.int (1 : Int32))])) _
      exact retN X135 hx (t := .boolean) Bd.returns (by simp) (hb hby at_280) hr
    · show Q0 Z p0 p1 p2 p3 p4 p5 h0 n0 _ T135.heap _
      rw [e135q]
      exact ⟨rfl, N135⟩
  ·
    rw [el] at a50
    have a138 : ∀ t, Steps p.tables e below (T48.setTop (mkF m 116 #[.val (.int p0), .val (.int p1), .val (.int p2), .val (.int p3), .val (.int p4), .val (.int p5), .val (.int cc), .val (.int (3 : Int32)), .val (.ref b4), .val (.ref b23), .val (.ref b45), .unset, .unset] [(.int (0 : Int32)), (.ref b4), (.ref b45)])) t → Steps p.tables e below (s₁.setTop (entryFrame m #[(.int p0), (.int p1), (.int p2), (.int p3), (.int p4), (.int p5)] maxLocals)) t := by
      intro t k
      refine a50 t ?_
      show Steps p.tables e below (T48.setTop (mkF m 106 #[.val (.int p0), .val (.int p1), .val (.int p2), .val (.int p3), .val (.int p4), .val (.int p5), .val (.int cc), .val (.int (3 : Int32)), .val (.ref b4), .val (.ref b23), .val (.ref b45), .unset, .unset] [])) _
      refine XS.iload X48.here hx rfl (hb hby at_106) rfl ?_
      refine XS.ifNo X48.here hx rfl (hb hby at_108) rfl ((if0 _ _).trans (tlt (by decide)).2.2.2) ?_
      refine XS.aload X48.here hx rfl (hb hby at_111) rfl rfl ?_
      refine XS.aload X48.here hx rfl (hb hby at_113) rfl rfl ?_
      refine XS.iconst X48.here hx rfl (hb hby at_115) ?_
      exact k
    obtain ⟨cl139, Ar139, qc139, Sz139, Nn139, Hs139, Gs139⟩ := id (((Arv.other (Arv.other (Arv.other (Arv.other (V20.ext E23) W28 (Nat.ne_of_lt (Nat.lt_of_lt_of_le V20.lt (Nat.le_of_eq g23.symm)))) W33 (Nat.ne_of_lt (Nat.lt_of_lt_of_le V20.lt (Nat.le_of_eq g23.symm)))) W38 (Nat.ne_of_lt (Nat.lt_of_lt_of_le V20.lt (Nat.le_of_eq g23.symm)))) W43 (Nat.ne_of_lt (Nat.lt_of_lt_of_le V20.lt (Nat.le_of_eq g23.symm)))).ext E45).keep K48q (ninS (Nat.ne_of_lt (Nat.lt_of_lt_of_le (Arv.other (Arv.other (Arv.other (Arv.other (V20.ext E23) W28 (Nat.ne_of_lt (Nat.lt_of_lt_of_le V20.lt (Nat.le_of_eq g23.symm)))) W33 (Nat.ne_of_lt (Nat.lt_of_lt_of_le V20.lt (Nat.le_of_eq g23.symm)))) W38 (Nat.ne_of_lt (Nat.lt_of_lt_of_le V20.lt (Nat.le_of_eq g23.symm)))) W43 (Nat.ne_of_lt (Nat.lt_of_lt_of_le V20.lt (Nat.le_of_eq g23.symm)))).lt (Nat.le_of_eq g45.symm))) nin0))
    have hin139 : ¬ ((0 : Int32) < 0 ∨ cl139.slots.size ≤ ((0 : Int32)).toNatClampNeg) := inb_of Sz139 ⟨by decide, by decide⟩
    have hat139 := Hs139.at hin139 (v := (.int p0)) rfl
    have a140 : ∀ t, Steps p.tables e below (T48.setTop (mkF m 120 #[.val (.int p0), .val (.int p1), .val (.int p2), .val (.int p3), .val (.int p4), .val (.int p5), .val (.int cc), .val (.int (3 : Int32)), .val (.ref b4), .val (.ref b23), .val (.ref b45), .unset, .unset] [(.int (0 : Int32)), (.ref b23), (.int p0), (.ref b45)])) t → Steps p.tables e below (s₁.setTop (entryFrame m #[(.int p0), (.int p1), (.int p2), (.int p3), (.int p4), (.int p5)] maxLocals)) t := by
      intro t k
      refine a138 t ?_
      show Steps p.tables e below (T48.setTop (mkF m 116 #[.val (.int p0), .val (.int p1), .val (.int p2), .val (.int p3), .val (.int p4), .val (.int p5), .val (.int cc), .val (.int (3 : Int32)), .val (.ref b4), .val (.ref b23), .val (.ref b45), .unset, .unset] [(.int (0 : Int32)), (.ref b4), (.ref b45)])) _
      refine X48.iaload hx (j := (0 : Int32)) (v := (.int p0)) Ar139.1 (State.isArrayOf_alike hZ.alike Ar139.2.1) Ar139.2.2 hin139 hat139 (g := (mkF m 116 #[.val (.int p0), .val (.int p1), .val (.int p2), .val (.int p3), .val (.int p4), .val (.int p5), .val (.int cc), .val (.int (3 : Int32)), .val (.ref b4), .val (.ref b23), .val (.ref b45), .unset, .unset] [(.int (0 : Int32)), (.ref b4), (.ref b45)])) rfl rfl (hb hby at_116) _ ?_
      refine XS.aload X48.here hx rfl (hb hby at_117) rfl rfl ?_
      refine XS.iconst X48.here hx rfl (hb hby at_119) ?_
      exact k
    obtain ⟨cl141, Ar141, qc141, Sz141, Nn141, Hs141, Gs141⟩ := id ((V43.ext E45).keep K48q (ninS (Nat.ne_of_lt (Nat.lt_of_lt_of_le V43.lt (Nat.le_of_eq g45.symm))) nin0))
    have hin141 : ¬ ((0 : Int32) < 0 ∨ cl141.slots.size ≤ ((0 : Int32)).toNatClampNeg) := inb_of Sz141 ⟨by decide, by decide⟩
    have hat141 := Hs141.at hin141 (v := (.double (fv e0))) rfl
    have a142 : ∀ t, Steps p.tables e below (T48.setTop (mkF m 121 #[.val (.int p0), .val (.int p1), .val (.int p2), .val (.int p3), .val (.int p4), .val (.int p5), .val (.int cc), .val (.int (3 : Int32)), .val (.ref b4), .val (.ref b23), .val (.ref b45), .unset, .unset] [(.double (fv e0)), (.int p0), (.ref b45)])) t → Steps p.tables e below (s₁.setTop (entryFrame m #[(.int p0), (.int p1), (.int p2), (.int p3), (.int p4), (.int p5)] maxLocals)) t := by
      intro t k
      refine a140 t ?_
      show Steps p.tables e below (T48.setTop (mkF m 120 #[.val (.int p0), .val (.int p1), .val (.int p2), .val (.int p3), .val (.int p4), .val (.int p5), .val (.int cc), .val (.int (3 : Int32)), .val (.ref b4), .val (.ref b23), .val (.ref b45), .unset, .unset] [(.int (0 : Int32)), (.ref b23), (.int p0), (.ref b45)])) _
      refine X48.daload hx (j := (0 : Int32)) (v := (.double (fv e0))) Ar141.1 (State.isArrayOf_alike hZ.alike Ar141.2.1) Ar141.2.2 hin141 hat141 (g := (mkF m 120 #[.val (.int p0), .val (.int p1), .val (.int p2), .val (.int p3), .val (.int p4), .val (.int p5), .val (.int cc), .val (.int (3 : Int32)), .val (.ref b4), .val (.ref b23), .val (.ref b45), .unset, .unset] [(.int (0 : Int32)), (.ref b23), (.int p0), (.ref b45)])) rfl rfl (hb hby at_120) _ ?_
      exact k
    obtain ⟨cq143, kq143, q143a, q143b, q143c⟩ := isOf hZ rfl (A45.keep K48q)
    obtain ⟨_, _, ⟨T143, L143, k143, n143⟩, -, X143, ⟨Lc143, hQ143, l143, y143, z143⟩, st143⟩ := X48.virtualBack hx (y := (⟨"com/example/tillerfront/tillerfront/engine/Nearest", "offer", "(ID)V"⟩ : MethodName)) (z := (⟨"com/example/tillerfront/tillerfront/engine/Nearest", "offer", "(ID)V"⟩ : MethodName)) hown (mvT hZ (hw _ (List.mem_of_getElem? (i := 39) rfl))) (mvT hZ (hw _ (List.mem_of_getElem? (i := 40) rfl))) (notFace_of_selects (args := #[]) (mvT hZ (hw _ (List.mem_of_getElem? (i := 42) rfl)))) (mvT hZ (hw _ (List.mem_of_getElem? (i := 42) rfl))) (mvT hZ (hw _ (List.mem_of_getElem? (i := 41) rfl))) (by decide) (backOf (W := 0) (rmO l Z a0 hw [] b45 p0 ia48 da48 ki48 kd48 cc (0 : Int32) cN (runP (0 : Int32) cN [p0, p1, p2, p3] [e0, e1, e2, e3] 0).2.2 e0 (runP (0 : Int32) cN [p0, p1, p2, p3] [e0, e1, e2, e3] 0).1 (runP (0 : Int32) cN [p0, p1, p2, p3] [e0, e1, e2, e3] 0).2.1 fv T48.heap n0 (Nat.le_trans (Nat.le_trans (Nat.le_trans (Nat.le_trans (Nat.le_trans (Nat.le_trans (Nat.le_trans (Nat.le_trans (Nat.le_trans (Nat.le_trans (Nat.le_trans (Nat.le_trans Z0 E4.1) (Keep.of_wr W8).1) (Keep.of_wr W12).1) (Keep.of_wr W16).1) (Keep.of_wr W20).1) E23.1) (Keep.of_wr W28).1) (Keep.of_wr W33).1) (Keep.of_wr W38).1) (Keep.of_wr W43).1) E45.1) K48q.1) hf (A45.keep K48q) g_b45 GI48 GD48 FI48 FD48 FS48 PI48 PD48 (Nat.ne_of_lt (Nat.lt_of_lt_of_le F_size_b45.lt SI48)) (Nat.ne_of_lt (Nat.lt_of_lt_of_le F_size_b45.lt SD48)) nid48 hcc ⟨(show (0 : Int32).toInt = ((0 : Nat) : Int) by decide), (hinv 0).2.2.2⟩ (hinv 0).1 (hinv 0).2.1 (hinv 0).2.2.1 he0) hZ (hw _ (List.mem_of_getElem? (i := 43) rfl)) (hw _ (List.mem_of_getElem? (i := 4) rfl)) (by decide) (by decide)) q143a q143c (g := (mkF m 121 #[.val (.int p0), .val (.int p1), .val (.int p2), .val (.int p3), .val (.int p4), .val (.int p5), .val (.int cc), .val (.int (3 : Int32)), .val (.ref b4), .val (.ref b23), .val (.ref b45), .unset, .unset] [(.double (fv e0)), (.int p0), (.ref b45)])) rfl (by rw [hml]; rfl) (Steps.refl _) (argsL := [(.int p0), (.double (fv e0))]) (rest := []) (lenOf own_pd7 rfl) rfl (by show 2 * 0 + _ ≤ _; exact Nat.le_of_eq rfl) (hb hby at_121) (fun _ _ => ⟨rfl, rfl, (by decide : 5 + 0 ≤ _), (by decide : 21 + 0 ≤ _)⟩)
    dsimp only [Pt.U, Pt.locs, Pt.cells, Pt.slots] at X143 l143 y143 z143 st143 hQ143
    subst l143 y143 z143
    obtain ⟨rfl, N143q, K143q, FI143, FD143, sq143, FS143, hq143, AI143, AD143⟩ := hQ143
    have N143 := Fr.app N48 N143q
    have KK143 : Keep h0 T143.heap [] := Keep.trans KK48 K143q (allS (Or.inr sz_b45) (allS (Or.inr (Nat.le_trans (K45).1 SI48)) (allS (Or.inr (Nat.le_trans (K45).1 SD48)) all0)))
    have PI143 : Arv Z T143.heap ia48 ki48 .int cc ((runP (0 : Int32) cN [p0, p1, p2, p3] [e0, e1, e2, e3] 1).1.map Value.int) (.int (0 : Int32)) := AI143
    have PD143 : Arv Z T143.heap da48 kd48 .double cc ((runP (0 : Int32) cN [p0, p1, p2, p3] [e0, e1, e2, e3] 1).2.1.map (fd fv)) (.double (0 : UInt64)) := AD143
    have hz143 : sq143.toInt = (((runP (0 : Int32) cN [p0, p1, p2, p3] [e0, e1, e2, e3] 1).2.2 : Nat) : Int) := hq143
    have a144 : ∀ t, Steps p.tables e below (T143.setTop (mkF m 124 #[.val (.int p0), .val (.int p1), .val (.int p2), .val (.int p3), .val (.int p4), .val (.int p5), .val (.int cc), .val (.int (3 : Int32)), .val (.ref b4), .val (.ref b23), .val (.ref b45), .unset, .unset] [])) t → Steps p.tables e below (s₁.setTop (entryFrame m #[(.int p0), (.int p1), (.int p2), (.int p3), (.int p4), (.int p5)] maxLocals)) t := fun t k => a142 t (st143.trans k)
    have a145 : ∀ t, Steps p.tables e below (T143.setTop (mkF m 135 #[.val (.int p0), .val (.int p1), .val (.int p2), .val (.int p3), .val (.int p4), .val (.int p5), .val (.int cc), .val (.int (3 : Int32)), .val (.ref b4), .val (.ref b23), .val (.ref b45), .unset, .unset] [(.int (1 : Int32)), (.ref b4), (.ref b45)])) t → Steps p.tables e below (s₁.setTop (entryFrame m #[(.int p0), (.int p1), (.int p2), (.int p3), (.int p4), (.int p5)] maxLocals)) t := by
      intro t k
      refine a144 t ?_
      show Steps p.tables e below (T143.setTop (mkF m 124 #[.val (.int p0), .val (.int p1), .val (.int p2), .val (.int p3), .val (.int p4), .val (.int p5), .val (.int cc), .val (.int (3 : Int32)), .val (.ref b4), .val (.ref b23), .val (.ref b45), .unset, .unset] [])) _
      refine XS.iload X143.here hx rfl (hb hby at_124) rfl ?_
      refine XS.iconst X143.here hx rfl (hb hby at_126) ?_
      refine XS.icmpNo X143.here hx rfl (hb hby at_127) rfl (tlt (by decide)).2.2.2 ?_
      refine XS.aload X143.here hx rfl (hb hby at_130) rfl rfl ?_
      refine XS.aload X143.here hx rfl (hb hby at_132) rfl rfl ?_
      refine XS.iconst X143.here hx rfl (hb hby at_134) ?_
      exact k
    obtain ⟨cl146, Ar146, qc146, Sz146, Nn146, Hs146, Gs146⟩ := id ((((Arv.other (Arv.other (Arv.other (Arv.other (V20.ext E23) W28 (Nat.ne_of_lt (Nat.lt_of_lt_of_le V20.lt (Nat.le_of_eq g23.symm)))) W33 (Nat.ne_of_lt (Nat.lt_of_lt_of_le V20.lt (Nat.le_of_eq g23.symm)))) W38 (Nat.ne_of_lt (Nat.lt_of_lt_of_le V20.lt (Nat.le_of_eq g23.symm)))) W43 (Nat.ne_of_lt (Nat.lt_of_lt_of_le V20.lt (Nat.le_of_eq g23.symm)))).ext E45).keep K48q (ninS (Nat.ne_of_lt (Nat.lt_of_lt_of_le (Arv.other (Arv.other (Arv.other (Arv.other (V20.ext E23) W28 (Nat.ne_of_lt (Nat.lt_of_lt_of_le V20.lt (Nat.le_of_eq g23.symm)))) W33 (Nat.ne_of_lt (Nat.lt_of_lt_of_le V20.lt (Nat.le_of_eq g23.symm)))) W38 (Nat.ne_of_lt (Nat.lt_of_lt_of_le V20.lt (Nat.le_of_eq g23.symm)))) W43 (Nat.ne_of_lt (Nat.lt_of_lt_of_le V20.lt (Nat.le_of_eq g23.symm)))).lt (Nat.le_of_eq g45.symm))) nin0)).keep K143q (ninS (Nat.ne_of_lt (Nat.lt_of_lt_of_le (Arv.other (Arv.other (Arv.other (Arv.other (V20.ext E23) W28 (Nat.ne_of_lt (Nat.lt_of_lt_of_le V20.lt (Nat.le_of_eq g23.symm)))) W33 (Nat.ne_of_lt (Nat.lt_of_lt_of_le V20.lt (Nat.le_of_eq g23.symm)))) W38 (Nat.ne_of_lt (Nat.lt_of_lt_of_le V20.lt (Nat.le_of_eq g23.symm)))) W43 (Nat.ne_of_lt (Nat.lt_of_lt_of_le V20.lt (Nat.le_of_eq g23.symm)))).lt (Nat.le_of_eq g45.symm))) (ninS (Nat.ne_of_lt (Nat.lt_of_lt_of_le ((Arv.other (Arv.other (Arv.other (Arv.other (V20.ext E23) W28 (Nat.ne_of_lt (Nat.lt_of_lt_of_le V20.lt (Nat.le_of_eq g23.symm)))) W33 (Nat.ne_of_lt (Nat.lt_of_lt_of_le V20.lt (Nat.le_of_eq g23.symm)))) W38 (Nat.ne_of_lt (Nat.lt_of_lt_of_le V20.lt (Nat.le_of_eq g23.symm)))) W43 (Nat.ne_of_lt (Nat.lt_of_lt_of_le V20.lt (Nat.le_of_eq g23.symm)))).ext E45).lt SI48)) (ninS (Nat.ne_of_lt (Nat.lt_of_lt_of_le ((Arv.other (Arv.other (Arv.other (Arv.other (V20.ext E23) W28 (Nat.ne_of_lt (Nat.lt_of_lt_of_le V20.lt (Nat.le_of_eq g23.symm)))) W33 (Nat.ne_of_lt (Nat.lt_of_lt_of_le V20.lt (Nat.le_of_eq g23.symm)))) W38 (Nat.ne_of_lt (Nat.lt_of_lt_of_le V20.lt (Nat.le_of_eq g23.symm)))) W43 (Nat.ne_of_lt (Nat.lt_of_lt_of_le V20.lt (Nat.le_of_eq g23.symm)))).ext E45).lt SD48)) nin0))))
    have hin146 : ¬ ((1 : Int32) < 0 ∨ cl146.slots.size ≤ ((1 : Int32)).toNatClampNeg) := inb_of Sz146 ⟨by decide, by decide⟩
    have hat146 := Hs146.at hin146 (v := (.int p1)) rfl
    have a147 : ∀ t, Steps p.tables e below (T143.setTop (mkF m 139 #[.val (.int p0), .val (.int p1), .val (.int p2), .val (.int p3), .val (.int p4), .val (.int p5), .val (.int cc), .val (.int (3 : Int32)), .val (.ref b4), .val (.ref b23), .val (.ref b45), .unset, .unset] [(.int (1 : Int32)), (.ref b23), (.int p1), (.ref b45)])) t → Steps p.tables e below (s₁.setTop (entryFrame m #[(.int p0), (.int p1), (.int p2), (.int p3), (.int p4), (.int p5)] maxLocals)) t := by
      intro t k
      refine a145 t ?_
      show Steps p.tables e below (T143.setTop (mkF m 135 #[.val (.int p0), .val (.int p1), .val (.int p2), .val (.int p3), .val (.int p4), .val (.int p5), .val (.int cc), .val (.int (3 : Int32)), .val (.ref b4), .val (.ref b23), .val (.ref b45), .unset, .unset] [(.int (1 : Int32)), (.ref b4), (.ref b45)])) _
      refine X143.iaload hx (j := (1 : Int32)) (v := (.int p1)) Ar146.1 (State.isArrayOf_alike hZ.alike Ar146.2.1) Ar146.2.2 hin146 hat146 (g := (mkF m 135 #[.val (.int p0), .val (.int p1), .val (.int p2), .val (.int p3), .val (.int p4), .val (.int p5), .val (.int cc), .val (.int (3 : Int32)), .val (.ref b4), .val (.ref b23), .val (.ref b45), .unset, .unset] [(.int (1 : Int32)), (.ref b4), (.ref b45)])) rfl rfl (hb hby at_135) _ ?_
      refine XS.aload X143.here hx rfl (hb hby at_136) rfl rfl ?_
      refine XS.iconst X143.here hx rfl (hb hby at_138) ?_
      exact k
    obtain ⟨cl148, Ar148, qc148, Sz148, Nn148, Hs148, Gs148⟩ := id (((V43.ext E45).keep K48q (ninS (Nat.ne_of_lt (Nat.lt_of_lt_of_le V43.lt (Nat.le_of_eq g45.symm))) nin0)).keep K143q (ninS (Nat.ne_of_lt (Nat.lt_of_lt_of_le V43.lt (Nat.le_of_eq g45.symm))) (ninS (Nat.ne_of_lt (Nat.lt_of_lt_of_le (V43.ext E45).lt SI48)) (ninS (Nat.ne_of_lt (Nat.lt_of_lt_of_le (V43.ext E45).lt SD48)) nin0))))
    have hin148 : ¬ ((1 : Int32) < 0 ∨ cl148.slots.size ≤ ((1 : Int32)).toNatClampNeg) := inb_of Sz148 ⟨by decide, by decide⟩
    have hat148 := Hs148.at hin148 (v := (.double (fv e1))) rfl
    have a149 : ∀ t, Steps p.tables e below (T143.setTop (mkF m 140 #[.val (.int p0), .val (.int p1), .val (.int p2), .val (.int p3), .val (.int p4), .val (.int p5), .val (.int cc), .val (.int (3 : Int32)), .val (.ref b4), .val (.ref b23), .val (.ref b45), .unset, .unset] [(.double (fv e1)), (.int p1), (.ref b45)])) t → Steps p.tables e below (s₁.setTop (entryFrame m #[(.int p0), (.int p1), (.int p2), (.int p3), (.int p4), (.int p5)] maxLocals)) t := by
      intro t k
      refine a147 t ?_
      show Steps p.tables e below (T143.setTop (mkF m 139 #[.val (.int p0), .val (.int p1), .val (.int p2), .val (.int p3), .val (.int p4), .val (.int p5), .val (.int cc), .val (.int (3 : Int32)), .val (.ref b4), .val (.ref b23), .val (.ref b45), .unset, .unset] [(.int (1 : Int32)), (.ref b23), (.int p1), (.ref b45)])) _
      refine X143.daload hx (j := (1 : Int32)) (v := (.double (fv e1))) Ar148.1 (State.isArrayOf_alike hZ.alike Ar148.2.1) Ar148.2.2 hin148 hat148 (g := (mkF m 139 #[.val (.int p0), .val (.int p1), .val (.int p2), .val (.int p3), .val (.int p4), .val (.int p5), .val (.int cc), .val (.int (3 : Int32)), .val (.ref b4), .val (.ref b23), .val (.ref b45), .unset, .unset] [(.int (1 : Int32)), (.ref b23), (.int p1), (.ref b45)])) rfl rfl (hb hby at_139) _ ?_
      exact k
    obtain ⟨cq150, kq150, q150a, q150b, q150c⟩ := isOf hZ rfl ((A45.keep K48q).keep K143q)
    obtain ⟨_, _, ⟨T150, L150, k150, n150⟩, -, X150, ⟨Lc150, hQ150, l150, y150, z150⟩, st150⟩ := X143.virtualBack hx (y := (⟨"com/example/tillerfront/tillerfront/engine/Nearest", "offer", "(ID)V"⟩ : MethodName)) (z := (⟨"com/example/tillerfront/tillerfront/engine/Nearest", "offer", "(ID)V"⟩ : MethodName)) hown (mvT hZ (hw _ (List.mem_of_getElem? (i := 39) rfl))) (mvT hZ (hw _ (List.mem_of_getElem? (i := 40) rfl))) (notFace_of_selects (args := #[]) (mvT hZ (hw _ (List.mem_of_getElem? (i := 42) rfl)))) (mvT hZ (hw _ (List.mem_of_getElem? (i := 42) rfl))) (mvT hZ (hw _ (List.mem_of_getElem? (i := 41) rfl))) (by decide) (backOf (W := 0) (rmO l Z a0 hw [] b45 p1 ia48 da48 ki48 kd48 cc sq143 cN (runP (0 : Int32) cN [p0, p1, p2, p3] [e0, e1, e2, e3] 1).2.2 e1 (runP (0 : Int32) cN [p0, p1, p2, p3] [e0, e1, e2, e3] 1).1 (runP (0 : Int32) cN [p0, p1, p2, p3] [e0, e1, e2, e3] 1).2.1 fv T143.heap n0 (Nat.le_trans (Nat.le_trans (Nat.le_trans (Nat.le_trans (Nat.le_trans (Nat.le_trans (Nat.le_trans (Nat.le_trans (Nat.le_trans (Nat.le_trans (Nat.le_trans (Nat.le_trans (Nat.le_trans Z0 E4.1) (Keep.of_wr W8).1) (Keep.of_wr W12).1) (Keep.of_wr W16).1) (Keep.of_wr W20).1) E23.1) (Keep.of_wr W28).1) (Keep.of_wr W33).1) (Keep.of_wr W38).1) (Keep.of_wr W43).1) E45.1) K48q.1) K143q.1) hf ((A45.keep K48q).keep K143q) g_b45 GI48 GD48 FI143 FD143 FS143 PI143 PD143 (Nat.ne_of_lt (Nat.lt_of_lt_of_le F_size_b45.lt SI48)) (Nat.ne_of_lt (Nat.lt_of_lt_of_le F_size_b45.lt SD48)) nid48 hcc ⟨hz143, (hinv 1).2.2.2⟩ (hinv 1).1 (hinv 1).2.1 (hinv 1).2.2.1 he1) hZ (hw _ (List.mem_of_getElem? (i := 43) rfl)) (hw _ (List.mem_of_getElem? (i := 4) rfl)) (by decide) (by decide)) q150a q150c (g := (mkF m 140 #[.val (.int p0), .val (.int p1), .val (.int p2), .val (.int p3), .val (.int p4), .val (.int p5), .val (.int cc), .val (.int (3 : Int32)), .val (.ref b4), .val (.ref b23), .val (.ref b45), .unset, .unset] [(.double (fv e1)), (.int p1), (.ref b45)])) rfl (by rw [hml]; rfl) (Steps.refl _) (argsL := [(.int p1), (.double (fv e1))]) (rest := []) (lenOf own_pd7 rfl) rfl (by show 2 * 0 + _ ≤ _; exact Nat.le_of_eq rfl) (hb hby at_140) (fun _ _ => ⟨rfl, rfl, (by decide : 5 + 0 ≤ _), (by decide : 21 + 0 ≤ _)⟩)
    dsimp only [Pt.U, Pt.locs, Pt.cells, Pt.slots] at X150 l150 y150 z150 st150 hQ150
    subst l150 y150 z150
    obtain ⟨rfl, N150q, K150q, FI150, FD150, sq150, FS150, hq150, AI150, AD150⟩ := hQ150
    have N150 := Fr.app N143 N150q
    have KK150 : Keep h0 T150.heap [] := Keep.trans KK143 K150q (allS (Or.inr sz_b45) (allS (Or.inr (Nat.le_trans (K45).1 SI48)) (allS (Or.inr (Nat.le_trans (K45).1 SD48)) all0)))
    have PI150 : Arv Z T150.heap ia48 ki48 .int cc ((runP (0 : Int32) cN [p0, p1, p2, p3] [e0, e1, e2, e3] 2).1.map Value.int) (.int (0 : Int32)) := AI150
    have PD150 : Arv Z T150.heap da48 kd48 .double cc ((runP (0 : Int32) cN [p0, p1, p2, p3] [e0, e1, e2, e3] 2).2.1.map (fd fv)) (.double (0 : UInt64)) := AD150
    have hz150 : sq150.toInt = (((runP (0 : Int32) cN [p0, p1, p2, p3] [e0, e1, e2, e3] 2).2.2 : Nat) : Int) := hq150
    have a151 : ∀ t, Steps p.tables e below (T150.setTop (mkF m 143 #[.val (.int p0), .val (.int p1), .val (.int p2), .val (.int p3), .val (.int p4), .val (.int p5), .val (.int cc), .val (.int (3 : Int32)), .val (.ref b4), .val (.ref b23), .val (.ref b45), .unset, .unset] [])) t → Steps p.tables e below (s₁.setTop (entryFrame m #[(.int p0), (.int p1), (.int p2), (.int p3), (.int p4), (.int p5)] maxLocals)) t := fun t k => a149 t (st150.trans k)
    have a152 : ∀ t, Steps p.tables e below (T150.setTop (mkF m 154 #[.val (.int p0), .val (.int p1), .val (.int p2), .val (.int p3), .val (.int p4), .val (.int p5), .val (.int cc), .val (.int (3 : Int32)), .val (.ref b4), .val (.ref b23), .val (.ref b45), .unset, .unset] [(.int (2 : Int32)), (.ref b4), (.ref b45)])) t → Steps p.tables e below (s₁.setTop (entryFrame m #[(.int p0), (.int p1), (.int p2), (.int p3), (.int p4), (.int p5)] maxLocals)) t := by
      intro t k
      refine a151 t ?_
      show Steps p.tables e below (T150.setTop (mkF m 143 #[.val (.int p0), .val (.int p1), .val (.int p2), .val (.int p3), .val (.int p4), .val (.int p5), .val (.int cc), .val (.int (3 : Int32)), .val (.ref b4), .val (.ref b23), .val (.ref b45), .unset, .unset] [])) _
      refine XS.iload X150.here hx rfl (hb hby at_143) rfl ?_
      refine XS.iconst X150.here hx rfl (hb hby at_145) ?_
      refine XS.icmpNo X150.here hx rfl (hb hby at_146) rfl (tlt (by decide)).2.2.2 ?_
      refine XS.aload X150.here hx rfl (hb hby at_149) rfl rfl ?_
      refine XS.aload X150.here hx rfl (hb hby at_151) rfl rfl ?_
      refine XS.iconst X150.here hx rfl (hb hby at_153) ?_
      exact k
    obtain ⟨cl153, Ar153, qc153, Sz153, Nn153, Hs153, Gs153⟩ := id (((((Arv.other (Arv.other (Arv.other (Arv.other (V20.ext E23) W28 (Nat.ne_of_lt (Nat.lt_of_lt_of_le V20.lt (Nat.le_of_eq g23.symm)))) W33 (Nat.ne_of_lt (Nat.lt_of_lt_of_le V20.lt (Nat.le_of_eq g23.symm)))) W38 (Nat.ne_of_lt (Nat.lt_of_lt_of_le V20.lt (Nat.le_of_eq g23.symm)))) W43 (Nat.ne_of_lt (Nat.lt_of_lt_of_le V20.lt (Nat.le_of_eq g23.symm)))).ext E45).keep K48q (ninS (Nat.ne_of_lt (Nat.lt_of_lt_of_le (Arv.other (Arv.other (Arv.other (Arv.other (V20.ext E23) W28 (Nat.ne_of_lt (Nat.lt_of_lt_of_le V20.lt (Nat.le_of_eq g23.symm)))) W33 (Nat.ne_of_lt (Nat.lt_of_lt_of_le V20.lt (Nat.le_of_eq g23.symm)))) W38 (Nat.ne_of_lt (Nat.lt_of_lt_of_le V20.lt (Nat.le_of_eq g23.symm)))) W43 (Nat.ne_of_lt (Nat.lt_of_lt_of_le V20.lt (Nat.le_of_eq g23.symm)))).lt (Nat.le_of_eq g45.symm))) nin0)).keep K143q (ninS (Nat.ne_of_lt (Nat.lt_of_lt_of_le (Arv.other (Arv.other (Arv.other (Arv.other (V20.ext E23) W28 (Nat.ne_of_lt (Nat.lt_of_lt_of_le V20.lt (Nat.le_of_eq g23.symm)))) W33 (Nat.ne_of_lt (Nat.lt_of_lt_of_le V20.lt (Nat.le_of_eq g23.symm)))) W38 (Nat.ne_of_lt (Nat.lt_of_lt_of_le V20.lt (Nat.le_of_eq g23.symm)))) W43 (Nat.ne_of_lt (Nat.lt_of_lt_of_le V20.lt (Nat.le_of_eq g23.symm)))).lt (Nat.le_of_eq g45.symm))) (ninS (Nat.ne_of_lt (Nat.lt_of_lt_of_le ((Arv.other (Arv.other (Arv.other (Arv.other (V20.ext E23) W28 (Nat.ne_of_lt (Nat.lt_of_lt_of_le V20.lt (Nat.le_of_eq g23.symm)))) W33 (Nat.ne_of_lt (Nat.lt_of_lt_of_le V20.lt (Nat.le_of_eq g23.symm)))) W38 (Nat.ne_of_lt (Nat.lt_of_lt_of_le V20.lt (Nat.le_of_eq g23.symm)))) W43 (Nat.ne_of_lt (Nat.lt_of_lt_of_le V20.lt (Nat.le_of_eq g23.symm)))).ext E45).lt SI48)) (ninS (Nat.ne_of_lt (Nat.lt_of_lt_of_le ((Arv.other (Arv.other (Arv.other (Arv.other (V20.ext E23) W28 (Nat.ne_of_lt (Nat.lt_of_lt_of_le V20.lt (Nat.le_of_eq g23.symm)))) W33 (Nat.ne_of_lt (Nat.lt_of_lt_of_le V20.lt (Nat.le_of_eq g23.symm)))) W38 (Nat.ne_of_lt (Nat.lt_of_lt_of_le V20.lt (Nat.le_of_eq g23.symm)))) W43 (Nat.ne_of_lt (Nat.lt_of_lt_of_le V20.lt (Nat.le_of_eq g23.symm)))).ext E45).lt SD48)) nin0)))).keep K150q (ninS (Nat.ne_of_lt (Nat.lt_of_lt_of_le (Arv.other (Arv.other (Arv.other (Arv.other (V20.ext E23) W28 (Nat.ne_of_lt (Nat.lt_of_lt_of_le V20.lt (Nat.le_of_eq g23.symm)))) W33 (Nat.ne_of_lt (Nat.lt_of_lt_of_le V20.lt (Nat.le_of_eq g23.symm)))) W38 (Nat.ne_of_lt (Nat.lt_of_lt_of_le V20.lt (Nat.le_of_eq g23.symm)))) W43 (Nat.ne_of_lt (Nat.lt_of_lt_of_le V20.lt (Nat.le_of_eq g23.symm)))).lt (Nat.le_of_eq g45.symm))) (ninS (Nat.ne_of_lt (Nat.lt_of_lt_of_le ((Arv.other (Arv.other (Arv.other (Arv.other (V20.ext E23) W28 (Nat.ne_of_lt (Nat.lt_of_lt_of_le V20.lt (Nat.le_of_eq g23.symm)))) W33 (Nat.ne_of_lt (Nat.lt_of_lt_of_le V20.lt (Nat.le_of_eq g23.symm)))) W38 (Nat.ne_of_lt (Nat.lt_of_lt_of_le V20.lt (Nat.le_of_eq g23.symm)))) W43 (Nat.ne_of_lt (Nat.lt_of_lt_of_le V20.lt (Nat.le_of_eq g23.symm)))).ext E45).lt SI48)) (ninS (Nat.ne_of_lt (Nat.lt_of_lt_of_le ((Arv.other (Arv.other (Arv.other (Arv.other (V20.ext E23) W28 (Nat.ne_of_lt (Nat.lt_of_lt_of_le V20.lt (Nat.le_of_eq g23.symm)))) W33 (Nat.ne_of_lt (Nat.lt_of_lt_of_le V20.lt (Nat.le_of_eq g23.symm)))) W38 (Nat.ne_of_lt (Nat.lt_of_lt_of_le V20.lt (Nat.le_of_eq g23.symm)))) W43 (Nat.ne_of_lt (Nat.lt_of_lt_of_le V20.lt (Nat.le_of_eq g23.symm)))).ext E45).lt SD48)) nin0))))
    have hin153 : ¬ ((2 : Int32) < 0 ∨ cl153.slots.size ≤ ((2 : Int32)).toNatClampNeg) := inb_of Sz153 ⟨by decide, by decide⟩
    have hat153 := Hs153.at hin153 (v := (.int p2)) rfl
    have a154 : ∀ t, Steps p.tables e below (T150.setTop (mkF m 158 #[.val (.int p0), .val (.int p1), .val (.int p2), .val (.int p3), .val (.int p4), .val (.int p5), .val (.int cc), .val (.int (3 : Int32)), .val (.ref b4), .val (.ref b23), .val (.ref b45), .unset, .unset] [(.int (2 : Int32)), (.ref b23), (.int p2), (.ref b45)])) t → Steps p.tables e below (s₁.setTop (entryFrame m #[(.int p0), (.int p1), (.int p2), (.int p3), (.int p4), (.int p5)] maxLocals)) t := by
      intro t k
      refine a152 t ?_
      show Steps p.tables e below (T150.setTop (mkF m 154 #[.val (.int p0), .val (.int p1), .val (.int p2), .val (.int p3), .val (.int p4), .val (.int p5), .val (.int cc), .val (.int (3 : Int32)), .val (.ref b4), .val (.ref b23), .val (.ref b45), .unset, .unset] [(.int (2 : Int32)), (.ref b4), (.ref b45)])) _
      refine X150.iaload hx (j := (2 : Int32)) (v := (.int p2)) Ar153.1 (State.isArrayOf_alike hZ.alike Ar153.2.1) Ar153.2.2 hin153 hat153 (g := (mkF m 154 #[.val (.int p0), .val (.int p1), .val (.int p2), .val (.int p3), .val (.int p4), .val (.int p5), .val (.int cc), .val (.int (3 : Int32)), .val (.ref b4), .val (.ref b23), .val (.ref b45), .unset, .unset] [(.int (2 : Int32)), (.ref b4), (.ref b45)])) rfl rfl (hb hby at_154) _ ?_
      refine XS.aload X150.here hx rfl (hb hby at_155) rfl rfl ?_
      refine XS.iconst X150.here hx rfl (hb hby at_157) ?_
      exact k
    obtain ⟨cl155, Ar155, qc155, Sz155, Nn155, Hs155, Gs155⟩ := id ((((V43.ext E45).keep K48q (ninS (Nat.ne_of_lt (Nat.lt_of_lt_of_le V43.lt (Nat.le_of_eq g45.symm))) nin0)).keep K143q (ninS (Nat.ne_of_lt (Nat.lt_of_lt_of_le V43.lt (Nat.le_of_eq g45.symm))) (ninS (Nat.ne_of_lt (Nat.lt_of_lt_of_le (V43.ext E45).lt SI48)) (ninS (Nat.ne_of_lt (Nat.lt_of_lt_of_le (V43.ext E45).lt SD48)) nin0)))).keep K150q (ninS (Nat.ne_of_lt (Nat.lt_of_lt_of_le V43.lt (Nat.le_of_eq g45.symm))) (ninS (Nat.ne_of_lt (Nat.lt_of_lt_of_le (V43.ext E45).lt SI48)) (ninS (Nat.ne_of_lt (Nat.lt_of_lt_of_le (V43.ext E45).lt SD48)) nin0))))
    have hin155 : ¬ ((2 : Int32) < 0 ∨ cl155.slots.size ≤ ((2 : Int32)).toNatClampNeg) := inb_of Sz155 ⟨by decide, by decide⟩
    have hat155 := Hs155.at hin155 (v := (.double (fv e2))) rfl
    have a156 : ∀ t, Steps p.tables e below (T150.setTop (mkF m 159 #[.val (.int p0), .val (.int p1), .val (.int p2), .val (.int p3), .val (.int p4), .val (.int p5), .val (.int cc), .val (.int (3 : Int32)), .val (.ref b4), .val (.ref b23), .val (.ref b45), .unset, .unset] [(.double (fv e2)), (.int p2), (.ref b45)])) t → Steps p.tables e below (s₁.setTop (entryFrame m #[(.int p0), (.int p1), (.int p2), (.int p3), (.int p4), (.int p5)] maxLocals)) t := by
      intro t k
      refine a154 t ?_
      show Steps p.tables e below (T150.setTop (mkF m 158 #[.val (.int p0), .val (.int p1), .val (.int p2), .val (.int p3), .val (.int p4), .val (.int p5), .val (.int cc), .val (.int (3 : Int32)), .val (.ref b4), .val (.ref b23), .val (.ref b45), .unset, .unset] [(.int (2 : Int32)), (.ref b23), (.int p2), (.ref b45)])) _
      refine X150.daload hx (j := (2 : Int32)) (v := (.double (fv e2))) Ar155.1 (State.isArrayOf_alike hZ.alike Ar155.2.1) Ar155.2.2 hin155 hat155 (g := (mkF m 158 #[.val (.int p0), .val (.int p1), .val (.int p2), .val (.int p3), .val (.int p4), .val (.int p5), .val (.int cc), .val (.int (3 : Int32)), .val (.ref b4), .val (.ref b23), .val (.ref b45), .unset, .unset] [(.int (2 : Int32)), (.ref b23), (.int p2), (.ref b45)])) rfl rfl (hb hby at_158) _ ?_
      exact k
    obtain ⟨cq157, kq157, q157a, q157b, q157c⟩ := isOf hZ rfl (((A45.keep K48q).keep K143q).keep K150q)
    obtain ⟨_, _, ⟨T157, L157, k157, n157⟩, -, X157, ⟨Lc157, hQ157, l157, y157, z157⟩, st157⟩ := X150.virtualBack hx (y := (⟨"com/example/tillerfront/tillerfront/engine/Nearest", "offer", "(ID)V"⟩ : MethodName)) (z := (⟨"com/example/tillerfront/tillerfront/engine/Nearest", "offer", "(ID)V"⟩ : MethodName)) hown (mvT hZ (hw _ (List.mem_of_getElem? (i := 39) rfl))) (mvT hZ (hw _ (List.mem_of_getElem? (i := 40) rfl))) (notFace_of_selects (args := #[]) (mvT hZ (hw _ (List.mem_of_getElem? (i := 42) rfl)))) (mvT hZ (hw _ (List.mem_of_getElem? (i := 42) rfl))) (mvT hZ (hw _ (List.mem_of_getElem? (i := 41) rfl))) (by decide) (backOf (W := 0) (rmO l Z a0 hw [] b45 p2 ia48 da48 ki48 kd48 cc sq150 cN (runP (0 : Int32) cN [p0, p1, p2, p3] [e0, e1, e2, e3] 2).2.2 e2 (runP (0 : Int32) cN [p0, p1, p2, p3] [e0, e1, e2, e3] 2).1 (runP (0 : Int32) cN [p0, p1, p2, p3] [e0, e1, e2, e3] 2).2.1 fv T150.heap n0 (Nat.le_trans (Nat.le_trans (Nat.le_trans (Nat.le_trans (Nat.le_trans (Nat.le_trans (Nat.le_trans (Nat.le_trans (Nat.le_trans (Nat.le_trans (Nat.le_trans (Nat.le_trans (Nat.le_trans (Nat.le_trans Z0 E4.1) (Keep.of_wr W8).1) (Keep.of_wr W12).1) (Keep.of_wr W16).1) (Keep.of_wr W20).1) E23.1) (Keep.of_wr W28).1) (Keep.of_wr W33).1) (Keep.of_wr W38).1) (Keep.of_wr W43).1) E45.1) K48q.1) K143q.1) K150q.1) hf (((A45.keep K48q).keep K143q).keep K150q) g_b45 GI48 GD48 FI150 FD150 FS150 PI150 PD150 (Nat.ne_of_lt (Nat.lt_of_lt_of_le F_size_b45.lt SI48)) (Nat.ne_of_lt (Nat.lt_of_lt_of_le F_size_b45.lt SD48)) nid48 hcc ⟨hz150, (hinv 2).2.2.2⟩ (hinv 2).1 (hinv 2).2.1 (hinv 2).2.2.1 he2) hZ (hw _ (List.mem_of_getElem? (i := 43) rfl)) (hw _ (List.mem_of_getElem? (i := 4) rfl)) (by decide) (by decide)) q157a q157c (g := (mkF m 159 #[.val (.int p0), .val (.int p1), .val (.int p2), .val (.int p3), .val (.int p4), .val (.int p5), .val (.int cc), .val (.int (3 : Int32)), .val (.ref b4), .val (.ref b23), .val (.ref b45), .unset, .unset] [(.double (fv e2)), (.int p2), (.ref b45)])) rfl (by rw [hml]; rfl) (Steps.refl _) (argsL := [(.int p2), (.double (fv e2))]) (rest := []) (lenOf own_pd7 rfl) rfl (by show 2 * 0 + _ ≤ _; exact Nat.le_of_eq rfl) (hb hby at_159) (fun _ _ => ⟨rfl, rfl, (by decide : 5 + 0 ≤ _), (by decide : 21 + 0 ≤ _)⟩)
    dsimp only [Pt.U, Pt.locs, Pt.cells, Pt.slots] at X157 l157 y157 z157 st157 hQ157
    subst l157 y157 z157
    obtain ⟨rfl, N157q, K157q, FI157, FD157, sq157, FS157, hq157, AI157, AD157⟩ := hQ157
    have N157 := Fr.app N150 N157q
    have KK157 : Keep h0 T157.heap [] := Keep.trans KK150 K157q (allS (Or.inr sz_b45) (allS (Or.inr (Nat.le_trans (K45).1 SI48)) (allS (Or.inr (Nat.le_trans (K45).1 SD48)) all0)))
    have PI157 : Arv Z T157.heap ia48 ki48 .int cc ((runP (0 : Int32) cN [p0, p1, p2, p3] [e0, e1, e2, e3] 3).1.map Value.int) (.int (0 : Int32)) := AI157
    have PD157 : Arv Z T157.heap da48 kd48 .double cc ((runP (0 : Int32) cN [p0, p1, p2, p3] [e0, e1, e2, e3] 3).2.1.map (fd fv)) (.double (0 : UInt64)) := AD157
    have hz157 : sq157.toInt = (((runP (0 : Int32) cN [p0, p1, p2, p3] [e0, e1, e2, e3] 3).2.2 : Nat) : Int) := hq157
    have a158 : ∀ t, Steps p.tables e below (T157.setTop (mkF m 162 #[.val (.int p0), .val (.int p1), .val (.int p2), .val (.int p3), .val (.int p4), .val (.int p5), .val (.int cc), .val (.int (3 : Int32)), .val (.ref b4), .val (.ref b23), .val (.ref b45), .unset, .unset] [])) t → Steps p.tables e below (s₁.setTop (entryFrame m #[(.int p0), (.int p1), (.int p2), (.int p3), (.int p4), (.int p5)] maxLocals)) t := fun t k => a156 t (st157.trans k)
    have a159 : ∀ t, Steps p.tables e below (T157.setTop (mkF m 183 #[.val (.int p0), .val (.int p1), .val (.int p2), .val (.int p3), .val (.int p4), .val (.int p5), .val (.int cc), .val (.int (3 : Int32)), .val (.ref b4), .val (.ref b23), .val (.ref b45), .unset, .unset] [(.ref b45)])) t → Steps p.tables e below (s₁.setTop (entryFrame m #[(.int p0), (.int p1), (.int p2), (.int p3), (.int p4), (.int p5)] maxLocals)) t := by
      intro t k
      refine a158 t ?_
      show Steps p.tables e below (T157.setTop (mkF m 162 #[.val (.int p0), .val (.int p1), .val (.int p2), .val (.int p3), .val (.int p4), .val (.int p5), .val (.int cc), .val (.int (3 : Int32)), .val (.ref b4), .val (.ref b23), .val (.ref b45), .unset, .unset] [])) _
      refine XS.iload X157.here hx rfl (hb hby at_162) rfl ?_
      refine XS.iconst X157.here hx rfl (hb hby at_164) ?_
      refine XS.icmpYes X157.here hx rfl (pc0 := 165) (pc' := 181) rfl (hb hby at_165) rfl (flt (by decide)).2.2.2 (by decide) (by decide) ?_
      refine XS.aload X157.here hx rfl (hb hby at_181) rfl rfl ?_
      exact k
    obtain ⟨cq160, kq160, q160a, q160b, q160c⟩ := isOf hZ rfl ((((A45.keep K48q).keep K143q).keep K150q).keep K157q)
    obtain ⟨_, _, ⟨T160, L160, k160, n160⟩, -, X160, ⟨Lc160, hQ160, l160, y160, z160⟩, st160⟩ := X157.virtualBack hx (y := (⟨"com/example/tillerfront/tillerfront/engine/Nearest", "indices", "()[I"⟩ : MethodName)) (z := (⟨"com/example/tillerfront/tillerfront/engine/Nearest", "indices", "()[I"⟩ : MethodName)) hown (mvT hZ (hw _ (List.mem_of_getElem? (i := 15) rfl))) (mvT hZ (hw _ (List.mem_of_getElem? (i := 16) rfl))) (notFace_of_selects (args := #[]) (mvT hZ (hw _ (List.mem_of_getElem? (i := 18) rfl)))) (mvT hZ (hw _ (List.mem_of_getElem? (i := 18) rfl))) (mvT hZ (hw _ (List.mem_of_getElem? (i := 17) rfl))) (by decide) (backOf (W := 0) (rmIn l Z a0 hw [] b45 ia48 ki48 cc sq157 cN (runP (0 : Int32) cN [p0, p1, p2, p3] [e0, e1, e2, e3] 3).2.2 (runP (0 : Int32) cN [p0, p1, p2, p3] [e0, e1, e2, e3] 3).1 T157.heap n0 (Nat.le_trans (Nat.le_trans (Nat.le_trans (Nat.le_trans (Nat.le_trans (Nat.le_trans (Nat.le_trans (Nat.le_trans (Nat.le_trans (Nat.le_trans (Nat.le_trans (Nat.le_trans (Nat.le_trans (Nat.le_trans (Nat.le_trans Z0 E4.1) (Keep.of_wr W8).1) (Keep.of_wr W12).1) (Keep.of_wr W16).1) (Keep.of_wr W20).1) E23.1) (Keep.of_wr W28).1) (Keep.of_wr W33).1) (Keep.of_wr W38).1) (Keep.of_wr W43).1) E45.1) K48q.1) K143q.1) K150q.1) K157q.1) FI157 FS157 PI157 (((XI48.keep K143q).keep K150q).keep K157q) hcc ⟨hz157, (hinv 3).2.2.2⟩ (hinv 3).1) hZ (hw _ (List.mem_of_getElem? (i := 19) rfl)) (hw _ (List.mem_of_getElem? (i := 4) rfl)) (by decide) (by decide)) q160a q160c (g := (mkF m 183 #[.val (.int p0), .val (.int p1), .val (.int p2), .val (.int p3), .val (.int p4), .val (.int p5), .val (.int cc), .val (.int (3 : Int32)), .val (.ref b4), .val (.ref b23), .val (.ref b45), .unset, .unset] [(.ref b45)])) rfl (by rw [hml]; rfl) (Steps.refl _) (argsL := []) (rest := []) (lenOf own_pd5 rfl) rfl (by show 2 * 0 + _ ≤ _; exact Nat.le_of_eq rfl) (hb hby at_183) (fun _ _ => ⟨rfl, rfl, (by decide : 5 + 1 ≤ _), (by decide : 21 + 5 ≤ _)⟩)
    dsimp only [Pt.U, Pt.locs, Pt.cells, Pt.slots] at X160 l160 y160 z160 st160 hQ160
    subst l160 y160 z160
    obtain ⟨gb160, kg160, rfl, N160q, K160q, VG160⟩ := hQ160
    have N160 := Fr.app N157 N160q
    have KK160 : Keep h0 T160.heap [] := Keep.trans KK157 K160q all0
    have a161 : ∀ t, Steps p.tables e below (T160.setTop (mkF m 186 #[.val (.int p0), .val (.int p1), .val (.int p2), .val (.int p3), .val (.int p4), .val (.int p5), .val (.int cc), .val (.int (3 : Int32)), .val (.ref b4), .val (.ref b23), .val (.ref b45), .unset, .unset] [(.ref gb160)])) t → Steps p.tables e below (s₁.setTop (entryFrame m #[(.int p0), (.int p1), (.int p2), (.int p3), (.int p4), (.int p5)] maxLocals)) t := fun t k => a159 t (st160.trans k)
    have a162 : ∀ t, Steps p.tables e below (T160.setTop (mkF m 188 #[.val (.int p0), .val (.int p1), .val (.int p2), .val (.int p3), .val (.int p4), .val (.int p5), .val (.int cc), .val (.int (3 : Int32)), .val (.ref b4), .val (.ref b23), .val (.ref b45), .val (.ref gb160), .unset] [])) t → Steps p.tables e below (s₁.setTop (entryFrame m #[(.int p0), (.int p1), (.int p2), (.int p3), (.int p4), (.int p5)] maxLocals)) t := by
      intro t k
      refine a161 t ?_
      show Steps p.tables e below (T160.setTop (mkF m 186 #[.val (.int p0), .val (.int p1), .val (.int p2), .val (.int p3), .val (.int p4), .val (.int p5), .val (.int cc), .val (.int (3 : Int32)), .val (.ref b4), .val (.ref b23), .val (.ref b45), .unset, .unset] [(.ref gb160)])) _
      refine XS.astore X160.here hx rfl (hb hby at_186) rfl rfl (l' := #[.val (.int p0), .val (.int p1), .val (.int p2), .val (.int p3), .val (.int p4), .val (.int p5), .val (.int cc), .val (.int (3 : Int32)), .val (.ref b4), .val (.ref b23), .val (.ref b45), .val (.ref gb160), .unset]) rfl ?_
      exact k
    have hnear := nearL p0 p1 p2 p3 (0 : Int32) (n := 3) hcc.2 (by decide) he0 he1 he2 he3
    have a163 : ∀ t, Steps p.tables e below (T160.setTop (mkF m 192 #[.val (.int p0), .val (.int p1), .val (.int p2), .val (.int p3), .val (.int p4), .val (.int p5), .val (.int cc), .val (.int (3 : Int32)), .val (.ref b4), .val (.ref b23), .val (.ref b45), .val (.ref gb160), .unset] [(.int (3 : Int32)), (.int cc)])) t → Steps p.tables e below (s₁.setTop (entryFrame m #[(.int p0), (.int p1), (.int p2), (.int p3), (.int p4), (.int p5)] maxLocals)) t := by
      intro t k
      refine a162 t ?_
      show Steps p.tables e below (T160.setTop (mkF m 188 #[.val (.int p0), .val (.int p1), .val (.int p2), .val (.int p3), .val (.int p4), .val (.int p5), .val (.int cc), .val (.int (3 : Int32)), .val (.ref b4), .val (.ref b23), .val (.ref b45), .val (.ref gb160), .unset] [])) _
      refine XS.iload X160.here hx rfl (hb hby at_188) rfl ?_
      refine XS.iload X160.here hx rfl (hb hby at_190) rfl ?_
      exact k
    obtain ⟨_, _, ⟨T164, L164, k164, n164⟩, -, X164, ⟨Lc164, hQ164, l164, y164, z164⟩, st164⟩ := Jvm.LawKit.callS X160 hx (y := (⟨"java/lang/Math", "min", "(II)I"⟩ : MethodName)) hown (mvT hZ (hw _ (List.mem_of_getElem? (i := 34) rfl))) (mvT hZ (hw _ (List.mem_of_getElem? (i := 27) rfl))) (mvT hZ (hw _ (List.mem_of_getElem? (i := 28) rfl))) (mvT hZ (hw _ (List.mem_of_getElem? (i := 29) rfl))) (by decide) (backOf (W := 0) (rmMin l Z a0 hw [] cc (3 : Int32) T160.heap n0 (Nat.le_trans (Nat.le_trans (Nat.le_trans (Nat.le_trans (Nat.le_trans (Nat.le_trans (Nat.le_trans (Nat.le_trans (Nat.le_trans (Nat.le_trans (Nat.le_trans (Nat.le_trans (Nat.le_trans (Nat.le_trans (Nat.le_trans (Nat.le_trans Z0 E4.1) (Keep.of_wr W8).1) (Keep.of_wr W12).1) (Keep.of_wr W16).1) (Keep.of_wr W20).1) E23.1) (Keep.of_wr W28).1) (Keep.of_wr W33).1) (Keep.of_wr W38).1) (Keep.of_wr W43).1) E45.1) K48q.1) K143q.1) K150q.1) K157q.1) K160q.1) ) hZ (hw _ (List.mem_of_getElem? (i := 29) rfl)) (hw _ (List.mem_of_getElem? (i := 28) rfl)) (by decide) (by decide)) (g := (mkF m 192 #[.val (.int p0), .val (.int p1), .val (.int p2), .val (.int p3), .val (.int p4), .val (.int p5), .val (.int cc), .val (.int (3 : Int32)), .val (.ref b4), .val (.ref b23), .val (.ref b45), .val (.ref gb160), .unset] [(.int (3 : Int32)), (.int cc)])) rfl (by rw [hml]; rfl) (argsL := [(.int cc), (.int (3 : Int32))]) (rest := []) (lenOf own_pd0 rfl) rfl (by show 2 * 0 + _ ≤ _; exact Nat.le_of_eq rfl) (hb hby at_192) (fun _ _ => ⟨rfl, rfl, (by decide : 6 + 0 ≤ _), (by decide : 26 + 0 ≤ _)⟩)
    dsimp only [Pt.U, Pt.locs, Pt.cells, Pt.slots] at X164 l164 y164 z164 st164 hQ164
    subst l164 y164 z164
    obtain ⟨rfl, N164q, e164q⟩ := hQ164
    have N164 := Fr.app N160 N164q
    have a165 : ∀ t, Steps p.tables e below (T164.setTop (mkF m 195 #[.val (.int p0), .val (.int p1), .val (.int p2), .val (.int p3), .val (.int p4), .val (.int p5), .val (.int cc), .val (.int (3 : Int32)), .val (.ref b4), .val (.ref b23), .val (.ref b45), .val (.ref gb160), .unset] [(.int (if (3 : Int32) < cc then (3 : Int32) else cc))])) t → Steps p.tables e below (s₁.setTop (entryFrame m #[(.int p0), (.int p1), (.int p2), (.int p3), (.int p4), (.int p5)] maxLocals)) t := fun t k => a163 t (st164 t k)
    have a166 : ∀ t, Steps p.tables e below (T164.setTop (mkF m 199 #[.val (.int p0), .val (.int p1), .val (.int p2), .val (.int p3), .val (.int p4), .val (.int p5), .val (.int cc), .val (.int (3 : Int32)), .val (.ref b4), .val (.ref b23), .val (.ref b45), .val (.ref gb160), .val (.int (if (3 : Int32) < cc then (3 : Int32) else cc))] [(.ref gb160)])) t → Steps p.tables e below (s₁.setTop (entryFrame m #[(.int p0), (.int p1), (.int p2), (.int p3), (.int p4), (.int p5)] maxLocals)) t := by
      intro t k
      refine a165 t ?_
      show Steps p.tables e below (T164.setTop (mkF m 195 #[.val (.int p0), .val (.int p1), .val (.int p2), .val (.int p3), .val (.int p4), .val (.int p5), .val (.int cc), .val (.int (3 : Int32)), .val (.ref b4), .val (.ref b23), .val (.ref b45), .val (.ref gb160), .unset] [(.int (if (3 : Int32) < cc then (3 : Int32) else cc))])) _
      refine XS.istore X164.here hx rfl (hb hby at_195) rfl (l' := #[.val (.int p0), .val (.int p1), .val (.int p2), .val (.int p3), .val (.int p4), .val (.int p5), .val (.int cc), .val (.int (3 : Int32)), .val (.ref b4), .val (.ref b23), .val (.ref b45), .val (.ref gb160), .val (.int (if (3 : Int32) < cc then (3 : Int32) else cc))]) rfl ?_
      refine XS.aload X164.here hx rfl (hb hby at_197) rfl rfl ?_
      exact k
    obtain ⟨cl167, Ar167, qc167, Sz167, Nn167, Hs167, Gs167⟩ := id VG160
    have a168 : ∀ t, Steps p.tables e below (T164.setTop (mkF m 218 #[.val (.int p0), .val (.int p1), .val (.int p2), .val (.int p3), .val (.int p4), .val (.int p5), .val (.int cc), .val (.int (3 : Int32)), .val (.ref b4), .val (.ref b23), .val (.ref b45), .val (.ref gb160), .val (.int (if (3 : Int32) < cc then (3 : Int32) else cc))] [(.int (0 : Int32)), (.int cc), (.int (3 : Int32)), (.ref b23), (.ref b4), (.ref gb160)])) t → Steps p.tables e below (s₁.setTop (entryFrame m #[(.int p0), (.int p1), (.int p2), (.int p3), (.int p4), (.int p5)] maxLocals)) t := by
      intro t k
      refine a166 t ?_
      show Steps p.tables e below (T164.setTop (mkF m 199 #[.val (.int p0), .val (.int p1), .val (.int p2), .val (.int p3), .val (.int p4), .val (.int p5), .val (.int cc), .val (.int (3 : Int32)), .val (.ref b4), .val (.ref b23), .val (.ref b45), .val (.ref gb160), .val (.int (if (3 : Int32) < cc then (3 : Int32) else cc))] [(.ref gb160)])) _
      refine X164.arraylength hx (by rw [e164q]; exact Ar167.1) (State.isArrayOf_alike hZ.alike Ar167.2.1) (g := (mkF m 199 #[.val (.int p0), .val (.int p1), .val (.int p2), .val (.int p3), .val (.int p4), .val (.int p5), .val (.int cc), .val (.int (3 : Int32)), .val (.ref b4), .val (.ref b23), .val (.ref b45), .val (.ref gb160), .val (.int (if (3 : Int32) < cc then (3 : Int32) else cc))] [(.ref gb160)])) rfl rfl (hb hby at_199) _ ?_
      rw [len_of Sz167 Nn167]
      refine XS.iload X164.here hx rfl (hb hby at_200) rfl ?_
      refine XS.icmpYes X164.here hx rfl (pc0 := 202) (pc' := 207) rfl (hb hby at_202) rfl (teq (own_len hcc.1 (show (3 : Int32).toInt = ((3 : Nat) : Int) by decide) (by rw [← hnear.1]; exact hz157))).1 (by decide) (by decide) ?_
      refine XS.aload X164.here hx rfl (hb hby at_207) rfl rfl ?_
      refine XS.aload X164.here hx rfl (hb hby at_209) rfl rfl ?_
      refine XS.aload X164.here hx rfl (hb hby at_211) rfl rfl ?_
      refine XS.iload X164.here hx rfl (hb hby at_213) rfl ?_
      refine XS.iload X164.here hx rfl (hb hby at_215) rfl ?_
      refine XS.iconst X164.here hx rfl (hb hby at_217) ?_
      exact k
    obtain ⟨_, _, ⟨T169, L169, k169, n169⟩, -, X169, ⟨Lc169, hQ169, l169, y169, z169⟩, st169⟩ := Jvm.LawKit.callS X164 hx (y := (⟨"com/example/tillerfront/tillerfront/engine/NearestOfferPinLaw", "ok", "([I[I[DIII)Z"⟩ : MethodName)) hown (mvT hZ (hw _ (List.mem_of_getElem? (i := 35) rfl))) (mvT hZ (hw _ (List.mem_of_getElem? (i := 36) rfl))) (mvT hZ (hw _ (List.mem_of_getElem? (i := 37) rfl))) (mvT hZ (hw _ (List.mem_of_getElem? (i := 38) rfl))) (by decide) (backOf (W := 0) (rmOk l Z a0 hw [] gb160 b4 b23 (3 : Int32) cc (0 : Int32) kg160 kk4 kk23 sq157 ((runP (0 : Int32) cN [p0, p1, p2, p3] [e0, e1, e2, e3] 3).1.take (runP (0 : Int32) cN [p0, p1, p2, p3] [e0, e1, e2, e3] 3).2.2) [p0, p1, p2, p3] [e0, e1, e2, e3] (runP (0 : Int32) cN [p0, p1, p2, p3] [e0, e1, e2, e3] 3).2.2 3 cN 0 fv T160.heap n0 (Nat.le_trans (Nat.le_trans (Nat.le_trans (Nat.le_trans (Nat.le_trans (Nat.le_trans (Nat.le_trans (Nat.le_trans (Nat.le_trans (Nat.le_trans (Nat.le_trans (Nat.le_trans (Nat.le_trans (Nat.le_trans (Nat.le_trans (Nat.le_trans Z0 E4.1) (Keep.of_wr W8).1) (Keep.of_wr W12).1) (Keep.of_wr W16).1) (Keep.of_wr W20).1) E23.1) (Keep.of_wr W28).1) (Keep.of_wr W33).1) (Keep.of_wr W38).1) (Keep.of_wr W43).1) E45.1) K48q.1) K143q.1) K150q.1) K157q.1) K160q.1) hf VG160 (((((((Arv.other (Arv.other (Arv.other (Arv.other (V20.ext E23) W28 (Nat.ne_of_lt (Nat.lt_of_lt_of_le V20.lt (Nat.le_of_eq g23.symm)))) W33 (Nat.ne_of_lt (Nat.lt_of_lt_of_le V20.lt (Nat.le_of_eq g23.symm)))) W38 (Nat.ne_of_lt (Nat.lt_of_lt_of_le V20.lt (Nat.le_of_eq g23.symm)))) W43 (Nat.ne_of_lt (Nat.lt_of_lt_of_le V20.lt (Nat.le_of_eq g23.symm)))).ext E45).keep K48q (ninS (Nat.ne_of_lt (Nat.lt_of_lt_of_le (Arv.other (Arv.other (Arv.other (Arv.other (V20.ext E23) W28 (Nat.ne_of_lt (Nat.lt_of_lt_of_le V20.lt (Nat.le_of_eq g23.symm)))) W33 (Nat.ne_of_lt (Nat.lt_of_lt_of_le V20.lt (Nat.le_of_eq g23.symm)))) W38 (Nat.ne_of_lt (Nat.lt_of_lt_of_le V20.lt (Nat.le_of_eq g23.symm)))) W43 (Nat.ne_of_lt (Nat.lt_of_lt_of_le V20.lt (Nat.le_of_eq g23.symm)))).lt (Nat.le_of_eq g45.symm))) nin0)).keep K143q (ninS (Nat.ne_of_lt (Nat.lt_of_lt_of_le (Arv.other (Arv.other (Arv.other (Arv.other (V20.ext E23) W28 (Nat.ne_of_lt (Nat.lt_of_lt_of_le V20.lt (Nat.le_of_eq g23.symm)))) W33 (Nat.ne_of_lt (Nat.lt_of_lt_of_le V20.lt (Nat.le_of_eq g23.symm)))) W38 (Nat.ne_of_lt (Nat.lt_of_lt_of_le V20.lt (Nat.le_of_eq g23.symm)))) W43 (Nat.ne_of_lt (Nat.lt_of_lt_of_le V20.lt (Nat.le_of_eq g23.symm)))).lt (Nat.le_of_eq g45.symm))) (ninS (Nat.ne_of_lt (Nat.lt_of_lt_of_le ((Arv.other (Arv.other (Arv.other (Arv.other (V20.ext E23) W28 (Nat.ne_of_lt (Nat.lt_of_lt_of_le V20.lt (Nat.le_of_eq g23.symm)))) W33 (Nat.ne_of_lt (Nat.lt_of_lt_of_le V20.lt (Nat.le_of_eq g23.symm)))) W38 (Nat.ne_of_lt (Nat.lt_of_lt_of_le V20.lt (Nat.le_of_eq g23.symm)))) W43 (Nat.ne_of_lt (Nat.lt_of_lt_of_le V20.lt (Nat.le_of_eq g23.symm)))).ext E45).lt SI48)) (ninS (Nat.ne_of_lt (Nat.lt_of_lt_of_le ((Arv.other (Arv.other (Arv.other (Arv.other (V20.ext E23) W28 (Nat.ne_of_lt (Nat.lt_of_lt_of_le V20.lt (Nat.le_of_eq g23.symm)))) W33 (Nat.ne_of_lt (Nat.lt_of_lt_of_le V20.lt (Nat.le_of_eq g23.symm)))) W38 (Nat.ne_of_lt (Nat.lt_of_lt_of_le V20.lt (Nat.le_of_eq g23.symm)))) W43 (Nat.ne_of_lt (Nat.lt_of_lt_of_le V20.lt (Nat.le_of_eq g23.symm)))).ext E45).lt SD48)) nin0)))).keep K150q (ninS (Nat.ne_of_lt (Nat.lt_of_lt_of_le (Arv.other (Arv.other (Arv.other (Arv.other (V20.ext E23) W28 (Nat.ne_of_lt (Nat.lt_of_lt_of_le V20.lt (Nat.le_of_eq g23.symm)))) W33 (Nat.ne_of_lt (Nat.lt_of_lt_of_le V20.lt (Nat.le_of_eq g23.symm)))) W38 (Nat.ne_of_lt (Nat.lt_of_lt_of_le V20.lt (Nat.le_of_eq g23.symm)))) W43 (Nat.ne_of_lt (Nat.lt_of_lt_of_le V20.lt (Nat.le_of_eq g23.symm)))).lt (Nat.le_of_eq g45.symm))) (ninS (Nat.ne_of_lt (Nat.lt_of_lt_of_le ((Arv.other (Arv.other (Arv.other (Arv.other (V20.ext E23) W28 (Nat.ne_of_lt (Nat.lt_of_lt_of_le V20.lt (Nat.le_of_eq g23.symm)))) W33 (Nat.ne_of_lt (Nat.lt_of_lt_of_le V20.lt (Nat.le_of_eq g23.symm)))) W38 (Nat.ne_of_lt (Nat.lt_of_lt_of_le V20.lt (Nat.le_of_eq g23.symm)))) W43 (Nat.ne_of_lt (Nat.lt_of_lt_of_le V20.lt (Nat.le_of_eq g23.symm)))).ext E45).lt SI48)) (ninS (Nat.ne_of_lt (Nat.lt_of_lt_of_le ((Arv.other (Arv.other (Arv.other (Arv.other (V20.ext E23) W28 (Nat.ne_of_lt (Nat.lt_of_lt_of_le V20.lt (Nat.le_of_eq g23.symm)))) W33 (Nat.ne_of_lt (Nat.lt_of_lt_of_le V20.lt (Nat.le_of_eq g23.symm)))) W38 (Nat.ne_of_lt (Nat.lt_of_lt_of_le V20.lt (Nat.le_of_eq g23.symm)))) W43 (Nat.ne_of_lt (Nat.lt_of_lt_of_le V20.lt (Nat.le_of_eq g23.symm)))).ext E45).lt SD48)) nin0)))).keep K157q (ninS (Nat.ne_of_lt (Nat.lt_of_lt_of_le (Arv.other (Arv.other (Arv.other (Arv.other (V20.ext E23) W28 (Nat.ne_of_lt (Nat.lt_of_lt_of_le V20.lt (Nat.le_of_eq g23.symm)))) W33 (Nat.ne_of_lt (Nat.lt_of_lt_of_le V20.lt (Nat.le_of_eq g23.symm)))) W38 (Nat.ne_of_lt (Nat.lt_of_lt_of_le V20.lt (Nat.le_of_eq g23.symm)))) W43 (Nat.ne_of_lt (Nat.lt_of_lt_of_le V20.lt (Nat.le_of_eq g23.symm)))).lt (Nat.le_of_eq g45.symm))) (ninS (Nat.ne_of_lt (Nat.lt_of_lt_of_le ((Arv.other (Arv.other (Arv.other (Arv.other (V20.ext E23) W28 (Nat.ne_of_lt (Nat.lt_of_lt_of_le V20.lt (Nat.le_of_eq g23.symm)))) W33 (Nat.ne_of_lt (Nat.lt_of_lt_of_le V20.lt (Nat.le_of_eq g23.symm)))) W38 (Nat.ne_of_lt (Nat.lt_of_lt_of_le V20.lt (Nat.le_of_eq g23.symm)))) W43 (Nat.ne_of_lt (Nat.lt_of_lt_of_le V20.lt (Nat.le_of_eq g23.symm)))).ext E45).lt SI48)) (ninS (Nat.ne_of_lt (Nat.lt_of_lt_of_le ((Arv.other (Arv.other (Arv.other (Arv.other (V20.ext E23) W28 (Nat.ne_of_lt (Nat.lt_of_lt_of_le V20.lt (Nat.le_of_eq g23.symm)))) W33 (Nat.ne_of_lt (Nat.lt_of_lt_of_le V20.lt (Nat.le_of_eq g23.symm)))) W38 (Nat.ne_of_lt (Nat.lt_of_lt_of_le V20.lt (Nat.le_of_eq g23.symm)))) W43 (Nat.ne_of_lt (Nat.lt_of_lt_of_le V20.lt (Nat.le_of_eq g23.symm)))).ext E45).lt SD48)) nin0)))).keep K160q nin0) ((((((V43.ext E45).keep K48q (ninS (Nat.ne_of_lt (Nat.lt_of_lt_of_le V43.lt (Nat.le_of_eq g45.symm))) nin0)).keep K143q (ninS (Nat.ne_of_lt (Nat.lt_of_lt_of_le V43.lt (Nat.le_of_eq g45.symm))) (ninS (Nat.ne_of_lt (Nat.lt_of_lt_of_le (V43.ext E45).lt SI48)) (ninS (Nat.ne_of_lt (Nat.lt_of_lt_of_le (V43.ext E45).lt SD48)) nin0)))).keep K150q (ninS (Nat.ne_of_lt (Nat.lt_of_lt_of_le V43.lt (Nat.le_of_eq g45.symm))) (ninS (Nat.ne_of_lt (Nat.lt_of_lt_of_le (V43.ext E45).lt SI48)) (ninS (Nat.ne_of_lt (Nat.lt_of_lt_of_le (V43.ext E45).lt SD48)) nin0)))).keep K157q (ninS (Nat.ne_of_lt (Nat.lt_of_lt_of_le V43.lt (Nat.le_of_eq g45.symm))) (ninS (Nat.ne_of_lt (Nat.lt_of_lt_of_le (V43.ext E45).lt SI48)) (ninS (Nat.ne_of_lt (Nat.lt_of_lt_of_le (V43.ext E45).lt SD48)) nin0)))).keep K160q nin0) (ds4 he0 he1 he2 he3) hz157 (by decide) hcc.1 (by decide) (by decide) (own_fin hnear (by decide))) hZ (hw _ (List.mem_of_getElem? (i := 38) rfl)) (hw _ (List.mem_of_getElem? (i := 37) rfl)) (by decide) (by decide)) (g := (mkF m 218 #[.val (.int p0), .val (.int p1), .val (.int p2), .val (.int p3), .val (.int p4), .val (.int p5), .val (.int cc), .val (.int (3 : Int32)), .val (.ref b4), .val (.ref b23), .val (.ref b45), .val (.ref gb160), .val (.int (if (3 : Int32) < cc then (3 : Int32) else cc))] [(.int (0 : Int32)), (.int cc), (.int (3 : Int32)), (.ref b23), (.ref b4), (.ref gb160)])) rfl (by rw [hml]; rfl) (argsL := [(.ref gb160), (.ref b4), (.ref b23), (.int (3 : Int32)), (.int cc), (.int (0 : Int32))]) (rest := []) (lenOf own_pd6 rfl) rfl (by show 2 * 0 + _ ≤ _; exact Nat.le_of_eq rfl) (hb hby at_218) (fun _ _ => ⟨rfl, e164q, (by decide : 6 + 0 ≤ _), (by decide : 26 + 0 ≤ _)⟩)
    dsimp only [Pt.U, Pt.locs, Pt.cells, Pt.slots] at X169 l169 y169 z169 st169 hQ169
    subst l169 y169 z169
    obtain ⟨rfl, N169q, e169q⟩ := hQ169
    have N169 := Fr.app N164 N169q
    have a170 : ∀ t, Steps p.tables e below (T169.setTop (mkF m 221 #[.val (.int p0), .val (.int p1), .val (.int p2), .val (.int p3), .val (.int p4), .val (.int p5), .val (.int cc), .val (.int (3 : Int32)), .val (.ref b4), .val (.ref b23), .val (.ref b45), .val (.ref gb160), .val (.int (if (3 : Int32) < cc then (3 : Int32) else cc))] [(.int (1 : Int32))])) t → Steps p.tables e below (s₁.setTop (entryFrame m #[(.int p0), (.int p1), (.int p2), (.int p3), (.int p4), (.int p5)] maxLocals)) t := fun t k => a168 t (st169 t k)
    have a171 : ∀ t, Steps p.tables e below (T169.setTop (mkF m 235 #[.val (.int p0), .val (.int p1), .val (.int p2), .val (.int p3), .val (.int p4), .val (.int p5), .val (.int cc), .val (.int (3 : Int32)), .val (.ref b4), .val (.ref b23), .val (.ref b45), .val (.ref gb160), .val (.int (if (3 : Int32) < cc then (3 : Int32) else cc))] [(.int (1 : Int32)), (.int cc), (.int (3 : Int32)), (.ref b23), (.ref b4), (.ref gb160)])) t → Steps p.tables e below (s₁.setTop (entryFrame m #[(.int p0), (.int p1), (.int p2), (.int p3), (.int p4), (.int p5)] maxLocals)) t := by
      intro t k
      refine a170 t ?_
      show Steps p.tables e below (T169.setTop (mkF m 221 #[.val (.int p0), .val (.int p1), .val (.int p2), .val (.int p3), .val (.int p4), .val (.int p5), .val (.int cc), .val (.int (3 : Int32)), .val (.ref b4), .val (.ref b23), .val (.ref b45), .val (.ref gb160), .val (.int (if (3 : Int32) < cc then (3 : Int32) else cc))] [(.int (1 : Int32))])) _
      refine XS.ifNo X169.here hx rfl (hb hby at_221) rfl ((if0 _ _).trans (feq (by decide)).1) ?_
      refine XS.aload X169.here hx rfl (hb hby at_224) rfl rfl ?_
      refine XS.aload X169.here hx rfl (hb hby at_226) rfl rfl ?_
      refine XS.aload X169.here hx rfl (hb hby at_228) rfl rfl ?_
      refine XS.iload X169.here hx rfl (hb hby at_230) rfl ?_
      refine XS.iload X169.here hx rfl (hb hby at_232) rfl ?_
      refine XS.iconst X169.here hx rfl (hb hby at_234) ?_
      exact k
    obtain ⟨_, _, ⟨T172, L172, k172, n172⟩, -, X172, ⟨Lc172, hQ172, l172, y172, z172⟩, st172⟩ := Jvm.LawKit.callS X169 hx (y := (⟨"com/example/tillerfront/tillerfront/engine/NearestOfferPinLaw", "ok", "([I[I[DIII)Z"⟩ : MethodName)) hown (mvT hZ (hw _ (List.mem_of_getElem? (i := 35) rfl))) (mvT hZ (hw _ (List.mem_of_getElem? (i := 36) rfl))) (mvT hZ (hw _ (List.mem_of_getElem? (i := 37) rfl))) (mvT hZ (hw _ (List.mem_of_getElem? (i := 38) rfl))) (by decide) (backOf (W := 0) (rmOk l Z a0 hw [] gb160 b4 b23 (3 : Int32) cc (1 : Int32) kg160 kk4 kk23 sq157 ((runP (0 : Int32) cN [p0, p1, p2, p3] [e0, e1, e2, e3] 3).1.take (runP (0 : Int32) cN [p0, p1, p2, p3] [e0, e1, e2, e3] 3).2.2) [p0, p1, p2, p3] [e0, e1, e2, e3] (runP (0 : Int32) cN [p0, p1, p2, p3] [e0, e1, e2, e3] 3).2.2 3 cN 1 fv T160.heap n0 (Nat.le_trans (Nat.le_trans (Nat.le_trans (Nat.le_trans (Nat.le_trans (Nat.le_trans (Nat.le_trans (Nat.le_trans (Nat.le_trans (Nat.le_trans (Nat.le_trans (Nat.le_trans (Nat.le_trans (Nat.le_trans (Nat.le_trans (Nat.le_trans Z0 E4.1) (Keep.of_wr W8).1) (Keep.of_wr W12).1) (Keep.of_wr W16).1) (Keep.of_wr W20).1) E23.1) (Keep.of_wr W28).1) (Keep.of_wr W33).1) (Keep.of_wr W38).1) (Keep.of_wr W43).1) E45.1) K48q.1) K143q.1) K150q.1) K157q.1) K160q.1) hf VG160 (((((((Arv.other (Arv.other (Arv.other (Arv.other (V20.ext E23) W28 (Nat.ne_of_lt (Nat.lt_of_lt_of_le V20.lt (Nat.le_of_eq g23.symm)))) W33 (Nat.ne_of_lt (Nat.lt_of_lt_of_le V20.lt (Nat.le_of_eq g23.symm)))) W38 (Nat.ne_of_lt (Nat.lt_of_lt_of_le V20.lt (Nat.le_of_eq g23.symm)))) W43 (Nat.ne_of_lt (Nat.lt_of_lt_of_le V20.lt (Nat.le_of_eq g23.symm)))).ext E45).keep K48q (ninS (Nat.ne_of_lt (Nat.lt_of_lt_of_le (Arv.other (Arv.other (Arv.other (Arv.other (V20.ext E23) W28 (Nat.ne_of_lt (Nat.lt_of_lt_of_le V20.lt (Nat.le_of_eq g23.symm)))) W33 (Nat.ne_of_lt (Nat.lt_of_lt_of_le V20.lt (Nat.le_of_eq g23.symm)))) W38 (Nat.ne_of_lt (Nat.lt_of_lt_of_le V20.lt (Nat.le_of_eq g23.symm)))) W43 (Nat.ne_of_lt (Nat.lt_of_lt_of_le V20.lt (Nat.le_of_eq g23.symm)))).lt (Nat.le_of_eq g45.symm))) nin0)).keep K143q (ninS (Nat.ne_of_lt (Nat.lt_of_lt_of_le (Arv.other (Arv.other (Arv.other (Arv.other (V20.ext E23) W28 (Nat.ne_of_lt (Nat.lt_of_lt_of_le V20.lt (Nat.le_of_eq g23.symm)))) W33 (Nat.ne_of_lt (Nat.lt_of_lt_of_le V20.lt (Nat.le_of_eq g23.symm)))) W38 (Nat.ne_of_lt (Nat.lt_of_lt_of_le V20.lt (Nat.le_of_eq g23.symm)))) W43 (Nat.ne_of_lt (Nat.lt_of_lt_of_le V20.lt (Nat.le_of_eq g23.symm)))).lt (Nat.le_of_eq g45.symm))) (ninS (Nat.ne_of_lt (Nat.lt_of_lt_of_le ((Arv.other (Arv.other (Arv.other (Arv.other (V20.ext E23) W28 (Nat.ne_of_lt (Nat.lt_of_lt_of_le V20.lt (Nat.le_of_eq g23.symm)))) W33 (Nat.ne_of_lt (Nat.lt_of_lt_of_le V20.lt (Nat.le_of_eq g23.symm)))) W38 (Nat.ne_of_lt (Nat.lt_of_lt_of_le V20.lt (Nat.le_of_eq g23.symm)))) W43 (Nat.ne_of_lt (Nat.lt_of_lt_of_le V20.lt (Nat.le_of_eq g23.symm)))).ext E45).lt SI48)) (ninS (Nat.ne_of_lt (Nat.lt_of_lt_of_le ((Arv.other (Arv.other (Arv.other (Arv.other (V20.ext E23) W28 (Nat.ne_of_lt (Nat.lt_of_lt_of_le V20.lt (Nat.le_of_eq g23.symm)))) W33 (Nat.ne_of_lt (Nat.lt_of_lt_of_le V20.lt (Nat.le_of_eq g23.symm)))) W38 (Nat.ne_of_lt (Nat.lt_of_lt_of_le V20.lt (Nat.le_of_eq g23.symm)))) W43 (Nat.ne_of_lt (Nat.lt_of_lt_of_le V20.lt (Nat.le_of_eq g23.symm)))).ext E45).lt SD48)) nin0)))).keep K150q (ninS (Nat.ne_of_lt (Nat.lt_of_lt_of_le (Arv.other (Arv.other (Arv.other (Arv.other (V20.ext E23) W28 (Nat.ne_of_lt (Nat.lt_of_lt_of_le V20.lt (Nat.le_of_eq g23.symm)))) W33 (Nat.ne_of_lt (Nat.lt_of_lt_of_le V20.lt (Nat.le_of_eq g23.symm)))) W38 (Nat.ne_of_lt (Nat.lt_of_lt_of_le V20.lt (Nat.le_of_eq g23.symm)))) W43 (Nat.ne_of_lt (Nat.lt_of_lt_of_le V20.lt (Nat.le_of_eq g23.symm)))).lt (Nat.le_of_eq g45.symm))) (ninS (Nat.ne_of_lt (Nat.lt_of_lt_of_le ((Arv.other (Arv.other (Arv.other (Arv.other (V20.ext E23) W28 (Nat.ne_of_lt (Nat.lt_of_lt_of_le V20.lt (Nat.le_of_eq g23.symm)))) W33 (Nat.ne_of_lt (Nat.lt_of_lt_of_le V20.lt (Nat.le_of_eq g23.symm)))) W38 (Nat.ne_of_lt (Nat.lt_of_lt_of_le V20.lt (Nat.le_of_eq g23.symm)))) W43 (Nat.ne_of_lt (Nat.lt_of_lt_of_le V20.lt (Nat.le_of_eq g23.symm)))).ext E45).lt SI48)) (ninS (Nat.ne_of_lt (Nat.lt_of_lt_of_le ((Arv.other (Arv.other (Arv.other (Arv.other (V20.ext E23) W28 (Nat.ne_of_lt (Nat.lt_of_lt_of_le V20.lt (Nat.le_of_eq g23.symm)))) W33 (Nat.ne_of_lt (Nat.lt_of_lt_of_le V20.lt (Nat.le_of_eq g23.symm)))) W38 (Nat.ne_of_lt (Nat.lt_of_lt_of_le V20.lt (Nat.le_of_eq g23.symm)))) W43 (Nat.ne_of_lt (Nat.lt_of_lt_of_le V20.lt (Nat.le_of_eq g23.symm)))).ext E45).lt SD48)) nin0)))).keep K157q (ninS (Nat.ne_of_lt (Nat.lt_of_lt_of_le (Arv.other (Arv.other (Arv.other (Arv.other (V20.ext E23) W28 (Nat.ne_of_lt (Nat.lt_of_lt_of_le V20.lt (Nat.le_of_eq g23.symm)))) W33 (Nat.ne_of_lt (Nat.lt_of_lt_of_le V20.lt (Nat.le_of_eq g23.symm)))) W38 (Nat.ne_of_lt (Nat.lt_of_lt_of_le V20.lt (Nat.le_of_eq g23.symm)))) W43 (Nat.ne_of_lt (Nat.lt_of_lt_of_le V20.lt (Nat.le_of_eq g23.symm)))).lt (Nat.le_of_eq g45.symm))) (ninS (Nat.ne_of_lt (Nat.lt_of_lt_of_le ((Arv.other (Arv.other (Arv.other (Arv.other (V20.ext E23) W28 (Nat.ne_of_lt (Nat.lt_of_lt_of_le V20.lt (Nat.le_of_eq g23.symm)))) W33 (Nat.ne_of_lt (Nat.lt_of_lt_of_le V20.lt (Nat.le_of_eq g23.symm)))) W38 (Nat.ne_of_lt (Nat.lt_of_lt_of_le V20.lt (Nat.le_of_eq g23.symm)))) W43 (Nat.ne_of_lt (Nat.lt_of_lt_of_le V20.lt (Nat.le_of_eq g23.symm)))).ext E45).lt SI48)) (ninS (Nat.ne_of_lt (Nat.lt_of_lt_of_le ((Arv.other (Arv.other (Arv.other (Arv.other (V20.ext E23) W28 (Nat.ne_of_lt (Nat.lt_of_lt_of_le V20.lt (Nat.le_of_eq g23.symm)))) W33 (Nat.ne_of_lt (Nat.lt_of_lt_of_le V20.lt (Nat.le_of_eq g23.symm)))) W38 (Nat.ne_of_lt (Nat.lt_of_lt_of_le V20.lt (Nat.le_of_eq g23.symm)))) W43 (Nat.ne_of_lt (Nat.lt_of_lt_of_le V20.lt (Nat.le_of_eq g23.symm)))).ext E45).lt SD48)) nin0)))).keep K160q nin0) ((((((V43.ext E45).keep K48q (ninS (Nat.ne_of_lt (Nat.lt_of_lt_of_le V43.lt (Nat.le_of_eq g45.symm))) nin0)).keep K143q (ninS (Nat.ne_of_lt (Nat.lt_of_lt_of_le V43.lt (Nat.le_of_eq g45.symm))) (ninS (Nat.ne_of_lt (Nat.lt_of_lt_of_le (V43.ext E45).lt SI48)) (ninS (Nat.ne_of_lt (Nat.lt_of_lt_of_le (V43.ext E45).lt SD48)) nin0)))).keep K150q (ninS (Nat.ne_of_lt (Nat.lt_of_lt_of_le V43.lt (Nat.le_of_eq g45.symm))) (ninS (Nat.ne_of_lt (Nat.lt_of_lt_of_le (V43.ext E45).lt SI48)) (ninS (Nat.ne_of_lt (Nat.lt_of_lt_of_le (V43.ext E45).lt SD48)) nin0)))).keep K157q (ninS (Nat.ne_of_lt (Nat.lt_of_lt_of_le V43.lt (Nat.le_of_eq g45.symm))) (ninS (Nat.ne_of_lt (Nat.lt_of_lt_of_le (V43.ext E45).lt SI48)) (ninS (Nat.ne_of_lt (Nat.lt_of_lt_of_le (V43.ext E45).lt SD48)) nin0)))).keep K160q nin0) (ds4 he0 he1 he2 he3) hz157 (by decide) hcc.1 (by decide) (by decide) (own_fin hnear (by decide))) hZ (hw _ (List.mem_of_getElem? (i := 38) rfl)) (hw _ (List.mem_of_getElem? (i := 37) rfl)) (by decide) (by decide)) (g := (mkF m 235 #[.val (.int p0), .val (.int p1), .val (.int p2), .val (.int p3), .val (.int p4), .val (.int p5), .val (.int cc), .val (.int (3 : Int32)), .val (.ref b4), .val (.ref b23), .val (.ref b45), .val (.ref gb160), .val (.int (if (3 : Int32) < cc then (3 : Int32) else cc))] [(.int (1 : Int32)), (.int cc), (.int (3 : Int32)), (.ref b23), (.ref b4), (.ref gb160)])) rfl (by rw [hml]; rfl) (argsL := [(.ref gb160), (.ref b4), (.ref b23), (.int (3 : Int32)), (.int cc), (.int (1 : Int32))]) (rest := []) (lenOf own_pd6 rfl) rfl (by show 2 * 0 + _ ≤ _; exact Nat.le_of_eq rfl) (hb hby at_235) (fun _ _ => ⟨rfl, e169q, (by decide : 6 + 0 ≤ _), (by decide : 26 + 0 ≤ _)⟩)
    dsimp only [Pt.U, Pt.locs, Pt.cells, Pt.slots] at X172 l172 y172 z172 st172 hQ172
    subst l172 y172 z172
    obtain ⟨rfl, N172q, e172q⟩ := hQ172
    have N172 := Fr.app N169 N172q
    have a173 : ∀ t, Steps p.tables e below (T172.setTop (mkF m 238 #[.val (.int p0), .val (.int p1), .val (.int p2), .val (.int p3), .val (.int p4), .val (.int p5), .val (.int cc), .val (.int (3 : Int32)), .val (.ref b4), .val (.ref b23), .val (.ref b45), .val (.ref gb160), .val (.int (if (3 : Int32) < cc then (3 : Int32) else cc))] [(.int (1 : Int32))])) t → Steps p.tables e below (s₁.setTop (entryFrame m #[(.int p0), (.int p1), (.int p2), (.int p3), (.int p4), (.int p5)] maxLocals)) t := fun t k => a171 t (st172 t k)
    have a174 : ∀ t, Steps p.tables e below (T172.setTop (mkF m 252 #[.val (.int p0), .val (.int p1), .val (.int p2), .val (.int p3), .val (.int p4), .val (.int p5), .val (.int cc), .val (.int (3 : Int32)), .val (.ref b4), .val (.ref b23), .val (.ref b45), .val (.ref gb160), .val (.int (if (3 : Int32) < cc then (3 : Int32) else cc))] [(.int (2 : Int32)), (.int cc), (.int (3 : Int32)), (.ref b23), (.ref b4), (.ref gb160)])) t → Steps p.tables e below (s₁.setTop (entryFrame m #[(.int p0), (.int p1), (.int p2), (.int p3), (.int p4), (.int p5)] maxLocals)) t := by
      intro t k
      refine a173 t ?_
      show Steps p.tables e below (T172.setTop (mkF m 238 #[.val (.int p0), .val (.int p1), .val (.int p2), .val (.int p3), .val (.int p4), .val (.int p5), .val (.int cc), .val (.int (3 : Int32)), .val (.ref b4), .val (.ref b23), .val (.ref b45), .val (.ref gb160), .val (.int (if (3 : Int32) < cc then (3 : Int32) else cc))] [(.int (1 : Int32))])) _
      refine XS.ifNo X172.here hx rfl (hb hby at_238) rfl ((if0 _ _).trans (feq (by decide)).1) ?_
      refine XS.aload X172.here hx rfl (hb hby at_241) rfl rfl ?_
      refine XS.aload X172.here hx rfl (hb hby at_243) rfl rfl ?_
      refine XS.aload X172.here hx rfl (hb hby at_245) rfl rfl ?_
      refine XS.iload X172.here hx rfl (hb hby at_247) rfl ?_
      refine XS.iload X172.here hx rfl (hb hby at_249) rfl ?_
      refine XS.iconst X172.here hx rfl (hb hby at_251) ?_
      exact k
    obtain ⟨_, _, ⟨T175, L175, k175, n175⟩, -, X175, ⟨Lc175, hQ175, l175, y175, z175⟩, st175⟩ := Jvm.LawKit.callS X172 hx (y := (⟨"com/example/tillerfront/tillerfront/engine/NearestOfferPinLaw", "ok", "([I[I[DIII)Z"⟩ : MethodName)) hown (mvT hZ (hw _ (List.mem_of_getElem? (i := 35) rfl))) (mvT hZ (hw _ (List.mem_of_getElem? (i := 36) rfl))) (mvT hZ (hw _ (List.mem_of_getElem? (i := 37) rfl))) (mvT hZ (hw _ (List.mem_of_getElem? (i := 38) rfl))) (by decide) (backOf (W := 0) (rmOk l Z a0 hw [] gb160 b4 b23 (3 : Int32) cc (2 : Int32) kg160 kk4 kk23 sq157 ((runP (0 : Int32) cN [p0, p1, p2, p3] [e0, e1, e2, e3] 3).1.take (runP (0 : Int32) cN [p0, p1, p2, p3] [e0, e1, e2, e3] 3).2.2) [p0, p1, p2, p3] [e0, e1, e2, e3] (runP (0 : Int32) cN [p0, p1, p2, p3] [e0, e1, e2, e3] 3).2.2 3 cN 2 fv T160.heap n0 (Nat.le_trans (Nat.le_trans (Nat.le_trans (Nat.le_trans (Nat.le_trans (Nat.le_trans (Nat.le_trans (Nat.le_trans (Nat.le_trans (Nat.le_trans (Nat.le_trans (Nat.le_trans (Nat.le_trans (Nat.le_trans (Nat.le_trans (Nat.le_trans Z0 E4.1) (Keep.of_wr W8).1) (Keep.of_wr W12).1) (Keep.of_wr W16).1) (Keep.of_wr W20).1) E23.1) (Keep.of_wr W28).1) (Keep.of_wr W33).1) (Keep.of_wr W38).1) (Keep.of_wr W43).1) E45.1) K48q.1) K143q.1) K150q.1) K157q.1) K160q.1) hf VG160 (((((((Arv.other (Arv.other (Arv.other (Arv.other (V20.ext E23) W28 (Nat.ne_of_lt (Nat.lt_of_lt_of_le V20.lt (Nat.le_of_eq g23.symm)))) W33 (Nat.ne_of_lt (Nat.lt_of_lt_of_le V20.lt (Nat.le_of_eq g23.symm)))) W38 (Nat.ne_of_lt (Nat.lt_of_lt_of_le V20.lt (Nat.le_of_eq g23.symm)))) W43 (Nat.ne_of_lt (Nat.lt_of_lt_of_le V20.lt (Nat.le_of_eq g23.symm)))).ext E45).keep K48q (ninS (Nat.ne_of_lt (Nat.lt_of_lt_of_le (Arv.other (Arv.other (Arv.other (Arv.other (V20.ext E23) W28 (Nat.ne_of_lt (Nat.lt_of_lt_of_le V20.lt (Nat.le_of_eq g23.symm)))) W33 (Nat.ne_of_lt (Nat.lt_of_lt_of_le V20.lt (Nat.le_of_eq g23.symm)))) W38 (Nat.ne_of_lt (Nat.lt_of_lt_of_le V20.lt (Nat.le_of_eq g23.symm)))) W43 (Nat.ne_of_lt (Nat.lt_of_lt_of_le V20.lt (Nat.le_of_eq g23.symm)))).lt (Nat.le_of_eq g45.symm))) nin0)).keep K143q (ninS (Nat.ne_of_lt (Nat.lt_of_lt_of_le (Arv.other (Arv.other (Arv.other (Arv.other (V20.ext E23) W28 (Nat.ne_of_lt (Nat.lt_of_lt_of_le V20.lt (Nat.le_of_eq g23.symm)))) W33 (Nat.ne_of_lt (Nat.lt_of_lt_of_le V20.lt (Nat.le_of_eq g23.symm)))) W38 (Nat.ne_of_lt (Nat.lt_of_lt_of_le V20.lt (Nat.le_of_eq g23.symm)))) W43 (Nat.ne_of_lt (Nat.lt_of_lt_of_le V20.lt (Nat.le_of_eq g23.symm)))).lt (Nat.le_of_eq g45.symm))) (ninS (Nat.ne_of_lt (Nat.lt_of_lt_of_le ((Arv.other (Arv.other (Arv.other (Arv.other (V20.ext E23) W28 (Nat.ne_of_lt (Nat.lt_of_lt_of_le V20.lt (Nat.le_of_eq g23.symm)))) W33 (Nat.ne_of_lt (Nat.lt_of_lt_of_le V20.lt (Nat.le_of_eq g23.symm)))) W38 (Nat.ne_of_lt (Nat.lt_of_lt_of_le V20.lt (Nat.le_of_eq g23.symm)))) W43 (Nat.ne_of_lt (Nat.lt_of_lt_of_le V20.lt (Nat.le_of_eq g23.symm)))).ext E45).lt SI48)) (ninS (Nat.ne_of_lt (Nat.lt_of_lt_of_le ((Arv.other (Arv.other (Arv.other (Arv.other (V20.ext E23) W28 (Nat.ne_of_lt (Nat.lt_of_lt_of_le V20.lt (Nat.le_of_eq g23.symm)))) W33 (Nat.ne_of_lt (Nat.lt_of_lt_of_le V20.lt (Nat.le_of_eq g23.symm)))) W38 (Nat.ne_of_lt (Nat.lt_of_lt_of_le V20.lt (Nat.le_of_eq g23.symm)))) W43 (Nat.ne_of_lt (Nat.lt_of_lt_of_le V20.lt (Nat.le_of_eq g23.symm)))).ext E45).lt SD48)) nin0)))).keep K150q (ninS (Nat.ne_of_lt (Nat.lt_of_lt_of_le (Arv.other (Arv.other (Arv.other (Arv.other (V20.ext E23) W28 (Nat.ne_of_lt (Nat.lt_of_lt_of_le V20.lt (Nat.le_of_eq g23.symm)))) W33 (Nat.ne_of_lt (Nat.lt_of_lt_of_le V20.lt (Nat.le_of_eq g23.symm)))) W38 (Nat.ne_of_lt (Nat.lt_of_lt_of_le V20.lt (Nat.le_of_eq g23.symm)))) W43 (Nat.ne_of_lt (Nat.lt_of_lt_of_le V20.lt (Nat.le_of_eq g23.symm)))).lt (Nat.le_of_eq g45.symm))) (ninS (Nat.ne_of_lt (Nat.lt_of_lt_of_le ((Arv.other (Arv.other (Arv.other (Arv.other (V20.ext E23) W28 (Nat.ne_of_lt (Nat.lt_of_lt_of_le V20.lt (Nat.le_of_eq g23.symm)))) W33 (Nat.ne_of_lt (Nat.lt_of_lt_of_le V20.lt (Nat.le_of_eq g23.symm)))) W38 (Nat.ne_of_lt (Nat.lt_of_lt_of_le V20.lt (Nat.le_of_eq g23.symm)))) W43 (Nat.ne_of_lt (Nat.lt_of_lt_of_le V20.lt (Nat.le_of_eq g23.symm)))).ext E45).lt SI48)) (ninS (Nat.ne_of_lt (Nat.lt_of_lt_of_le ((Arv.other (Arv.other (Arv.other (Arv.other (V20.ext E23) W28 (Nat.ne_of_lt (Nat.lt_of_lt_of_le V20.lt (Nat.le_of_eq g23.symm)))) W33 (Nat.ne_of_lt (Nat.lt_of_lt_of_le V20.lt (Nat.le_of_eq g23.symm)))) W38 (Nat.ne_of_lt (Nat.lt_of_lt_of_le V20.lt (Nat.le_of_eq g23.symm)))) W43 (Nat.ne_of_lt (Nat.lt_of_lt_of_le V20.lt (Nat.le_of_eq g23.symm)))).ext E45).lt SD48)) nin0)))).keep K157q (ninS (Nat.ne_of_lt (Nat.lt_of_lt_of_le (Arv.other (Arv.other (Arv.other (Arv.other (V20.ext E23) W28 (Nat.ne_of_lt (Nat.lt_of_lt_of_le V20.lt (Nat.le_of_eq g23.symm)))) W33 (Nat.ne_of_lt (Nat.lt_of_lt_of_le V20.lt (Nat.le_of_eq g23.symm)))) W38 (Nat.ne_of_lt (Nat.lt_of_lt_of_le V20.lt (Nat.le_of_eq g23.symm)))) W43 (Nat.ne_of_lt (Nat.lt_of_lt_of_le V20.lt (Nat.le_of_eq g23.symm)))).lt (Nat.le_of_eq g45.symm))) (ninS (Nat.ne_of_lt (Nat.lt_of_lt_of_le ((Arv.other (Arv.other (Arv.other (Arv.other (V20.ext E23) W28 (Nat.ne_of_lt (Nat.lt_of_lt_of_le V20.lt (Nat.le_of_eq g23.symm)))) W33 (Nat.ne_of_lt (Nat.lt_of_lt_of_le V20.lt (Nat.le_of_eq g23.symm)))) W38 (Nat.ne_of_lt (Nat.lt_of_lt_of_le V20.lt (Nat.le_of_eq g23.symm)))) W43 (Nat.ne_of_lt (Nat.lt_of_lt_of_le V20.lt (Nat.le_of_eq g23.symm)))).ext E45).lt SI48)) (ninS (Nat.ne_of_lt (Nat.lt_of_lt_of_le ((Arv.other (Arv.other (Arv.other (Arv.other (V20.ext E23) W28 (Nat.ne_of_lt (Nat.lt_of_lt_of_le V20.lt (Nat.le_of_eq g23.symm)))) W33 (Nat.ne_of_lt (Nat.lt_of_lt_of_le V20.lt (Nat.le_of_eq g23.symm)))) W38 (Nat.ne_of_lt (Nat.lt_of_lt_of_le V20.lt (Nat.le_of_eq g23.symm)))) W43 (Nat.ne_of_lt (Nat.lt_of_lt_of_le V20.lt (Nat.le_of_eq g23.symm)))).ext E45).lt SD48)) nin0)))).keep K160q nin0) ((((((V43.ext E45).keep K48q (ninS (Nat.ne_of_lt (Nat.lt_of_lt_of_le V43.lt (Nat.le_of_eq g45.symm))) nin0)).keep K143q (ninS (Nat.ne_of_lt (Nat.lt_of_lt_of_le V43.lt (Nat.le_of_eq g45.symm))) (ninS (Nat.ne_of_lt (Nat.lt_of_lt_of_le (V43.ext E45).lt SI48)) (ninS (Nat.ne_of_lt (Nat.lt_of_lt_of_le (V43.ext E45).lt SD48)) nin0)))).keep K150q (ninS (Nat.ne_of_lt (Nat.lt_of_lt_of_le V43.lt (Nat.le_of_eq g45.symm))) (ninS (Nat.ne_of_lt (Nat.lt_of_lt_of_le (V43.ext E45).lt SI48)) (ninS (Nat.ne_of_lt (Nat.lt_of_lt_of_le (V43.ext E45).lt SD48)) nin0)))).keep K157q (ninS (Nat.ne_of_lt (Nat.lt_of_lt_of_le V43.lt (Nat.le_of_eq g45.symm))) (ninS (Nat.ne_of_lt (Nat.lt_of_lt_of_le (V43.ext E45).lt SI48)) (ninS (Nat.ne_of_lt (Nat.lt_of_lt_of_le (V43.ext E45).lt SD48)) nin0)))).keep K160q nin0) (ds4 he0 he1 he2 he3) hz157 (by decide) hcc.1 (by decide) (by decide) (own_fin hnear (by decide))) hZ (hw _ (List.mem_of_getElem? (i := 38) rfl)) (hw _ (List.mem_of_getElem? (i := 37) rfl)) (by decide) (by decide)) (g := (mkF m 252 #[.val (.int p0), .val (.int p1), .val (.int p2), .val (.int p3), .val (.int p4), .val (.int p5), .val (.int cc), .val (.int (3 : Int32)), .val (.ref b4), .val (.ref b23), .val (.ref b45), .val (.ref gb160), .val (.int (if (3 : Int32) < cc then (3 : Int32) else cc))] [(.int (2 : Int32)), (.int cc), (.int (3 : Int32)), (.ref b23), (.ref b4), (.ref gb160)])) rfl (by rw [hml]; rfl) (argsL := [(.ref gb160), (.ref b4), (.ref b23), (.int (3 : Int32)), (.int cc), (.int (2 : Int32))]) (rest := []) (lenOf own_pd6 rfl) rfl (by show 2 * 0 + _ ≤ _; exact Nat.le_of_eq rfl) (hb hby at_252) (fun _ _ => ⟨rfl, e172q, (by decide : 6 + 0 ≤ _), (by decide : 26 + 0 ≤ _)⟩)
    dsimp only [Pt.U, Pt.locs, Pt.cells, Pt.slots] at X175 l175 y175 z175 st175 hQ175
    subst l175 y175 z175
    obtain ⟨rfl, N175q, e175q⟩ := hQ175
    have N175 := Fr.app N172 N175q
    have a176 : ∀ t, Steps p.tables e below (T175.setTop (mkF m 255 #[.val (.int p0), .val (.int p1), .val (.int p2), .val (.int p3), .val (.int p4), .val (.int p5), .val (.int cc), .val (.int (3 : Int32)), .val (.ref b4), .val (.ref b23), .val (.ref b45), .val (.ref gb160), .val (.int (if (3 : Int32) < cc then (3 : Int32) else cc))] [(.int (1 : Int32))])) t → Steps p.tables e below (s₁.setTop (entryFrame m #[(.int p0), (.int p1), (.int p2), (.int p3), (.int p4), (.int p5)] maxLocals)) t := fun t k => a174 t (st175 t k)
    have a177 : ∀ t, Steps p.tables e below (T175.setTop (mkF m 269 #[.val (.int p0), .val (.int p1), .val (.int p2), .val (.int p3), .val (.int p4), .val (.int p5), .val (.int cc), .val (.int (3 : Int32)), .val (.ref b4), .val (.ref b23), .val (.ref b45), .val (.ref gb160), .val (.int (if (3 : Int32) < cc then (3 : Int32) else cc))] [(.int (3 : Int32)), (.int cc), (.int (3 : Int32)), (.ref b23), (.ref b4), (.ref gb160)])) t → Steps p.tables e below (s₁.setTop (entryFrame m #[(.int p0), (.int p1), (.int p2), (.int p3), (.int p4), (.int p5)] maxLocals)) t := by
      intro t k
      refine a176 t ?_
      show Steps p.tables e below (T175.setTop (mkF m 255 #[.val (.int p0), .val (.int p1), .val (.int p2), .val (.int p3), .val (.int p4), .val (.int p5), .val (.int cc), .val (.int (3 : Int32)), .val (.ref b4), .val (.ref b23), .val (.ref b45), .val (.ref gb160), .val (.int (if (3 : Int32) < cc then (3 : Int32) else cc))] [(.int (1 : Int32))])) _
      refine XS.ifNo X175.here hx rfl (hb hby at_255) rfl ((if0 _ _).trans (feq (by decide)).1) ?_
      refine XS.aload X175.here hx rfl (hb hby at_258) rfl rfl ?_
      refine XS.aload X175.here hx rfl (hb hby at_260) rfl rfl ?_
      refine XS.aload X175.here hx rfl (hb hby at_262) rfl rfl ?_
      refine XS.iload X175.here hx rfl (hb hby at_264) rfl ?_
      refine XS.iload X175.here hx rfl (hb hby at_266) rfl ?_
      refine XS.iconst X175.here hx rfl (hb hby at_268) ?_
      exact k
    obtain ⟨_, _, ⟨T178, L178, k178, n178⟩, -, X178, ⟨Lc178, hQ178, l178, y178, z178⟩, st178⟩ := Jvm.LawKit.callS X175 hx (y := (⟨"com/example/tillerfront/tillerfront/engine/NearestOfferPinLaw", "ok", "([I[I[DIII)Z"⟩ : MethodName)) hown (mvT hZ (hw _ (List.mem_of_getElem? (i := 35) rfl))) (mvT hZ (hw _ (List.mem_of_getElem? (i := 36) rfl))) (mvT hZ (hw _ (List.mem_of_getElem? (i := 37) rfl))) (mvT hZ (hw _ (List.mem_of_getElem? (i := 38) rfl))) (by decide) (backOf (W := 0) (rmOk l Z a0 hw [] gb160 b4 b23 (3 : Int32) cc (3 : Int32) kg160 kk4 kk23 sq157 ((runP (0 : Int32) cN [p0, p1, p2, p3] [e0, e1, e2, e3] 3).1.take (runP (0 : Int32) cN [p0, p1, p2, p3] [e0, e1, e2, e3] 3).2.2) [p0, p1, p2, p3] [e0, e1, e2, e3] (runP (0 : Int32) cN [p0, p1, p2, p3] [e0, e1, e2, e3] 3).2.2 3 cN 3 fv T160.heap n0 (Nat.le_trans (Nat.le_trans (Nat.le_trans (Nat.le_trans (Nat.le_trans (Nat.le_trans (Nat.le_trans (Nat.le_trans (Nat.le_trans (Nat.le_trans (Nat.le_trans (Nat.le_trans (Nat.le_trans (Nat.le_trans (Nat.le_trans (Nat.le_trans Z0 E4.1) (Keep.of_wr W8).1) (Keep.of_wr W12).1) (Keep.of_wr W16).1) (Keep.of_wr W20).1) E23.1) (Keep.of_wr W28).1) (Keep.of_wr W33).1) (Keep.of_wr W38).1) (Keep.of_wr W43).1) E45.1) K48q.1) K143q.1) K150q.1) K157q.1) K160q.1) hf VG160 (((((((Arv.other (Arv.other (Arv.other (Arv.other (V20.ext E23) W28 (Nat.ne_of_lt (Nat.lt_of_lt_of_le V20.lt (Nat.le_of_eq g23.symm)))) W33 (Nat.ne_of_lt (Nat.lt_of_lt_of_le V20.lt (Nat.le_of_eq g23.symm)))) W38 (Nat.ne_of_lt (Nat.lt_of_lt_of_le V20.lt (Nat.le_of_eq g23.symm)))) W43 (Nat.ne_of_lt (Nat.lt_of_lt_of_le V20.lt (Nat.le_of_eq g23.symm)))).ext E45).keep K48q (ninS (Nat.ne_of_lt (Nat.lt_of_lt_of_le (Arv.other (Arv.other (Arv.other (Arv.other (V20.ext E23) W28 (Nat.ne_of_lt (Nat.lt_of_lt_of_le V20.lt (Nat.le_of_eq g23.symm)))) W33 (Nat.ne_of_lt (Nat.lt_of_lt_of_le V20.lt (Nat.le_of_eq g23.symm)))) W38 (Nat.ne_of_lt (Nat.lt_of_lt_of_le V20.lt (Nat.le_of_eq g23.symm)))) W43 (Nat.ne_of_lt (Nat.lt_of_lt_of_le V20.lt (Nat.le_of_eq g23.symm)))).lt (Nat.le_of_eq g45.symm))) nin0)).keep K143q (ninS (Nat.ne_of_lt (Nat.lt_of_lt_of_le (Arv.other (Arv.other (Arv.other (Arv.other (V20.ext E23) W28 (Nat.ne_of_lt (Nat.lt_of_lt_of_le V20.lt (Nat.le_of_eq g23.symm)))) W33 (Nat.ne_of_lt (Nat.lt_of_lt_of_le V20.lt (Nat.le_of_eq g23.symm)))) W38 (Nat.ne_of_lt (Nat.lt_of_lt_of_le V20.lt (Nat.le_of_eq g23.symm)))) W43 (Nat.ne_of_lt (Nat.lt_of_lt_of_le V20.lt (Nat.le_of_eq g23.symm)))).lt (Nat.le_of_eq g45.symm))) (ninS (Nat.ne_of_lt (Nat.lt_of_lt_of_le ((Arv.other (Arv.other (Arv.other (Arv.other (V20.ext E23) W28 (Nat.ne_of_lt (Nat.lt_of_lt_of_le V20.lt (Nat.le_of_eq g23.symm)))) W33 (Nat.ne_of_lt (Nat.lt_of_lt_of_le V20.lt (Nat.le_of_eq g23.symm)))) W38 (Nat.ne_of_lt (Nat.lt_of_lt_of_le V20.lt (Nat.le_of_eq g23.symm)))) W43 (Nat.ne_of_lt (Nat.lt_of_lt_of_le V20.lt (Nat.le_of_eq g23.symm)))).ext E45).lt SI48)) (ninS (Nat.ne_of_lt (Nat.lt_of_lt_of_le ((Arv.other (Arv.other (Arv.other (Arv.other (V20.ext E23) W28 (Nat.ne_of_lt (Nat.lt_of_lt_of_le V20.lt (Nat.le_of_eq g23.symm)))) W33 (Nat.ne_of_lt (Nat.lt_of_lt_of_le V20.lt (Nat.le_of_eq g23.symm)))) W38 (Nat.ne_of_lt (Nat.lt_of_lt_of_le V20.lt (Nat.le_of_eq g23.symm)))) W43 (Nat.ne_of_lt (Nat.lt_of_lt_of_le V20.lt (Nat.le_of_eq g23.symm)))).ext E45).lt SD48)) nin0)))).keep K150q (ninS (Nat.ne_of_lt (Nat.lt_of_lt_of_le (Arv.other (Arv.other (Arv.other (Arv.other (V20.ext E23) W28 (Nat.ne_of_lt (Nat.lt_of_lt_of_le V20.lt (Nat.le_of_eq g23.symm)))) W33 (Nat.ne_of_lt (Nat.lt_of_lt_of_le V20.lt (Nat.le_of_eq g23.symm)))) W38 (Nat.ne_of_lt (Nat.lt_of_lt_of_le V20.lt (Nat.le_of_eq g23.symm)))) W43 (Nat.ne_of_lt (Nat.lt_of_lt_of_le V20.lt (Nat.le_of_eq g23.symm)))).lt (Nat.le_of_eq g45.symm))) (ninS (Nat.ne_of_lt (Nat.lt_of_lt_of_le ((Arv.other (Arv.other (Arv.other (Arv.other (V20.ext E23) W28 (Nat.ne_of_lt (Nat.lt_of_lt_of_le V20.lt (Nat.le_of_eq g23.symm)))) W33 (Nat.ne_of_lt (Nat.lt_of_lt_of_le V20.lt (Nat.le_of_eq g23.symm)))) W38 (Nat.ne_of_lt (Nat.lt_of_lt_of_le V20.lt (Nat.le_of_eq g23.symm)))) W43 (Nat.ne_of_lt (Nat.lt_of_lt_of_le V20.lt (Nat.le_of_eq g23.symm)))).ext E45).lt SI48)) (ninS (Nat.ne_of_lt (Nat.lt_of_lt_of_le ((Arv.other (Arv.other (Arv.other (Arv.other (V20.ext E23) W28 (Nat.ne_of_lt (Nat.lt_of_lt_of_le V20.lt (Nat.le_of_eq g23.symm)))) W33 (Nat.ne_of_lt (Nat.lt_of_lt_of_le V20.lt (Nat.le_of_eq g23.symm)))) W38 (Nat.ne_of_lt (Nat.lt_of_lt_of_le V20.lt (Nat.le_of_eq g23.symm)))) W43 (Nat.ne_of_lt (Nat.lt_of_lt_of_le V20.lt (Nat.le_of_eq g23.symm)))).ext E45).lt SD48)) nin0)))).keep K157q (ninS (Nat.ne_of_lt (Nat.lt_of_lt_of_le (Arv.other (Arv.other (Arv.other (Arv.other (V20.ext E23) W28 (Nat.ne_of_lt (Nat.lt_of_lt_of_le V20.lt (Nat.le_of_eq g23.symm)))) W33 (Nat.ne_of_lt (Nat.lt_of_lt_of_le V20.lt (Nat.le_of_eq g23.symm)))) W38 (Nat.ne_of_lt (Nat.lt_of_lt_of_le V20.lt (Nat.le_of_eq g23.symm)))) W43 (Nat.ne_of_lt (Nat.lt_of_lt_of_le V20.lt (Nat.le_of_eq g23.symm)))).lt (Nat.le_of_eq g45.symm))) (ninS (Nat.ne_of_lt (Nat.lt_of_lt_of_le ((Arv.other (Arv.other (Arv.other (Arv.other (V20.ext E23) W28 (Nat.ne_of_lt (Nat.lt_of_lt_of_le V20.lt (Nat.le_of_eq g23.symm)))) W33 (Nat.ne_of_lt (Nat.lt_of_lt_of_le V20.lt (Nat.le_of_eq g23.symm)))) W38 (Nat.ne_of_lt (Nat.lt_of_lt_of_le V20.lt (Nat.le_of_eq g23.symm)))) W43 (Nat.ne_of_lt (Nat.lt_of_lt_of_le V20.lt (Nat.le_of_eq g23.symm)))).ext E45).lt SI48)) (ninS (Nat.ne_of_lt (Nat.lt_of_lt_of_le ((Arv.other (Arv.other (Arv.other (Arv.other (V20.ext E23) W28 (Nat.ne_of_lt (Nat.lt_of_lt_of_le V20.lt (Nat.le_of_eq g23.symm)))) W33 (Nat.ne_of_lt (Nat.lt_of_lt_of_le V20.lt (Nat.le_of_eq g23.symm)))) W38 (Nat.ne_of_lt (Nat.lt_of_lt_of_le V20.lt (Nat.le_of_eq g23.symm)))) W43 (Nat.ne_of_lt (Nat.lt_of_lt_of_le V20.lt (Nat.le_of_eq g23.symm)))).ext E45).lt SD48)) nin0)))).keep K160q nin0) ((((((V43.ext E45).keep K48q (ninS (Nat.ne_of_lt (Nat.lt_of_lt_of_le V43.lt (Nat.le_of_eq g45.symm))) nin0)).keep K143q (ninS (Nat.ne_of_lt (Nat.lt_of_lt_of_le V43.lt (Nat.le_of_eq g45.symm))) (ninS (Nat.ne_of_lt (Nat.lt_of_lt_of_le (V43.ext E45).lt SI48)) (ninS (Nat.ne_of_lt (Nat.lt_of_lt_of_le (V43.ext E45).lt SD48)) nin0)))).keep K150q (ninS (Nat.ne_of_lt (Nat.lt_of_lt_of_le V43.lt (Nat.le_of_eq g45.symm))) (ninS (Nat.ne_of_lt (Nat.lt_of_lt_of_le (V43.ext E45).lt SI48)) (ninS (Nat.ne_of_lt (Nat.lt_of_lt_of_le (V43.ext E45).lt SD48)) nin0)))).keep K157q (ninS (Nat.ne_of_lt (Nat.lt_of_lt_of_le V43.lt (Nat.le_of_eq g45.symm))) (ninS (Nat.ne_of_lt (Nat.lt_of_lt_of_le (V43.ext E45).lt SI48)) (ninS (Nat.ne_of_lt (Nat.lt_of_lt_of_le (V43.ext E45).lt SD48)) nin0)))).keep K160q nin0) (ds4 he0 he1 he2 he3) hz157 (by decide) hcc.1 (by decide) (by decide) (own_fin hnear (by decide))) hZ (hw _ (List.mem_of_getElem? (i := 38) rfl)) (hw _ (List.mem_of_getElem? (i := 37) rfl)) (by decide) (by decide)) (g := (mkF m 269 #[.val (.int p0), .val (.int p1), .val (.int p2), .val (.int p3), .val (.int p4), .val (.int p5), .val (.int cc), .val (.int (3 : Int32)), .val (.ref b4), .val (.ref b23), .val (.ref b45), .val (.ref gb160), .val (.int (if (3 : Int32) < cc then (3 : Int32) else cc))] [(.int (3 : Int32)), (.int cc), (.int (3 : Int32)), (.ref b23), (.ref b4), (.ref gb160)])) rfl (by rw [hml]; rfl) (argsL := [(.ref gb160), (.ref b4), (.ref b23), (.int (3 : Int32)), (.int cc), (.int (3 : Int32))]) (rest := []) (lenOf own_pd6 rfl) rfl (by show 2 * 0 + _ ≤ _; exact Nat.le_of_eq rfl) (hb hby at_269) (fun _ _ => ⟨rfl, e175q, (by decide : 6 + 0 ≤ _), (by decide : 26 + 0 ≤ _)⟩)
    dsimp only [Pt.U, Pt.locs, Pt.cells, Pt.slots] at X178 l178 y178 z178 st178 hQ178
    subst l178 y178 z178
    obtain ⟨rfl, N178q, e178q⟩ := hQ178
    have N178 := Fr.app N175 N178q
    have a179 : ∀ t, Steps p.tables e below (T178.setTop (mkF m 272 #[.val (.int p0), .val (.int p1), .val (.int p2), .val (.int p3), .val (.int p4), .val (.int p5), .val (.int cc), .val (.int (3 : Int32)), .val (.ref b4), .val (.ref b23), .val (.ref b45), .val (.ref gb160), .val (.int (if (3 : Int32) < cc then (3 : Int32) else cc))] [(.int (1 : Int32))])) t → Steps p.tables e below (s₁.setTop (entryFrame m #[(.int p0), (.int p1), (.int p2), (.int p3), (.int p4), (.int p5)] maxLocals)) t := fun t k => a177 t (st178 t k)
    have a180 : ∀ t, Steps p.tables e below (T178.setTop (mkF m 280 #[.val (.int p0), .val (.int p1), .val (.int p2), .val (.int p3), .val (.int p4), .val (.int p5), .val (.int cc), .val (.int (3 : Int32)), .val (.ref b4), .val (.ref b23), .val (.ref b45), .val (.ref gb160), .val (.int (if (3 : Int32) < cc then (3 : Int32) else cc))] [(.int (1 : Int32))])) t → Steps p.tables e below (s₁.setTop (entryFrame m #[(.int p0), (.int p1), (.int p2), (.int p3), (.int p4), (.int p5)] maxLocals)) t := by
      intro t k
      refine a179 t ?_
      show Steps p.tables e below (T178.setTop (mkF m 272 #[.val (.int p0), .val (.int p1), .val (.int p2), .val (.int p3), .val (.int p4), .val (.int p5), .val (.int cc), .val (.int (3 : Int32)), .val (.ref b4), .val (.ref b23), .val (.ref b45), .val (.ref gb160), .val (.int (if (3 : Int32) < cc then (3 : Int32) else cc))] [(.int (1 : Int32))])) _
      refine XS.ifNo X178.here hx rfl (hb hby at_272) rfl ((if0 _ _).trans (feq (by decide)).1) ?_
      refine XS.iconst X178.here hx rfl (hb hby at_275) ?_
      refine XS.goto X178.here hx rfl (pc0 := 276) (pc' := 280) rfl (hb hby at_276) (by decide) (by decide) ?_
      exact k
    obtain ⟨fs, hr, hrun, hended, hW, hsame⟩ := X178.leave (v := some (.int (1 : Int32))) (fun h => by rw [Bd.returns] at h; cases h)
    refine ⟨_, _, a180 _ ?_, hrun, hended, _, _, rfl, ?_, ⟨_, rfl⟩, hW, hsame.mono (by decide) (by decide)⟩
    · show Steps p.tables e below (T178.setTop (mkF m 280 #[.val (.int p0), .val (.int p1), .val (.int p2), .val (.int p3), .val (.int p4), .val (.int p5), .val (.int cc), .val (.int (3 : Int32)), .val (.ref b4), .val (.ref b23), .val (.ref b45), .val (.ref gb160), .val (.int (if (3 : Int32) < cc then (3 : Int32) else cc))] [(.int (1 : Int32))])) _
      exact retN X178 hx (t := .boolean) Bd.returns (by simp) (hb hby at_280) hr
    · show Q0 Z p0 p1 p2 p3 p4 p5 h0 n0 _ T178.heap _
      rw [e178q]
      exact ⟨rfl, N178⟩
  ·
    rw [el] at a50
    have a181 : ∀ t, Steps p.tables e below (T48.setTop (mkF m 116 #[.val (.int p0), .val (.int p1), .val (.int p2), .val (.int p3), .val (.int p4), .val (.int p5), .val (.int cc), .val (.int (4 : Int32)), .val (.ref b4), .val (.ref b23), .val (.ref b45), .unset, .unset] [(.int (0 : Int32)), (.ref b4), (.ref b45)])) t → Steps p.tables e below (s₁.setTop (entryFrame m #[(.int p0), (.int p1), (.int p2), (.int p3), (.int p4), (.int p5)] maxLocals)) t := by
      intro t k
      refine a50 t ?_
      show Steps p.tables e below (T48.setTop (mkF m 106 #[.val (.int p0), .val (.int p1), .val (.int p2), .val (.int p3), .val (.int p4), .val (.int p5), .val (.int cc), .val (.int (4 : Int32)), .val (.ref b4), .val (.ref b23), .val (.ref b45), .unset, .unset] [])) _
      refine XS.iload X48.here hx rfl (hb hby at_106) rfl ?_
      refine XS.ifNo X48.here hx rfl (hb hby at_108) rfl ((if0 _ _).trans (tlt (by decide)).2.2.2) ?_
      refine XS.aload X48.here hx rfl (hb hby at_111) rfl rfl ?_
      refine XS.aload X48.here hx rfl (hb hby at_113) rfl rfl ?_
      refine XS.iconst X48.here hx rfl (hb hby at_115) ?_
      exact k
    obtain ⟨cl182, Ar182, qc182, Sz182, Nn182, Hs182, Gs182⟩ := id (((Arv.other (Arv.other (Arv.other (Arv.other (V20.ext E23) W28 (Nat.ne_of_lt (Nat.lt_of_lt_of_le V20.lt (Nat.le_of_eq g23.symm)))) W33 (Nat.ne_of_lt (Nat.lt_of_lt_of_le V20.lt (Nat.le_of_eq g23.symm)))) W38 (Nat.ne_of_lt (Nat.lt_of_lt_of_le V20.lt (Nat.le_of_eq g23.symm)))) W43 (Nat.ne_of_lt (Nat.lt_of_lt_of_le V20.lt (Nat.le_of_eq g23.symm)))).ext E45).keep K48q (ninS (Nat.ne_of_lt (Nat.lt_of_lt_of_le (Arv.other (Arv.other (Arv.other (Arv.other (V20.ext E23) W28 (Nat.ne_of_lt (Nat.lt_of_lt_of_le V20.lt (Nat.le_of_eq g23.symm)))) W33 (Nat.ne_of_lt (Nat.lt_of_lt_of_le V20.lt (Nat.le_of_eq g23.symm)))) W38 (Nat.ne_of_lt (Nat.lt_of_lt_of_le V20.lt (Nat.le_of_eq g23.symm)))) W43 (Nat.ne_of_lt (Nat.lt_of_lt_of_le V20.lt (Nat.le_of_eq g23.symm)))).lt (Nat.le_of_eq g45.symm))) nin0))
    have hin182 : ¬ ((0 : Int32) < 0 ∨ cl182.slots.size ≤ ((0 : Int32)).toNatClampNeg) := inb_of Sz182 ⟨by decide, by decide⟩
    have hat182 := Hs182.at hin182 (v := (.int p0)) rfl
    have a183 : ∀ t, Steps p.tables e below (T48.setTop (mkF m 120 #[.val (.int p0), .val (.int p1), .val (.int p2), .val (.int p3), .val (.int p4), .val (.int p5), .val (.int cc), .val (.int (4 : Int32)), .val (.ref b4), .val (.ref b23), .val (.ref b45), .unset, .unset] [(.int (0 : Int32)), (.ref b23), (.int p0), (.ref b45)])) t → Steps p.tables e below (s₁.setTop (entryFrame m #[(.int p0), (.int p1), (.int p2), (.int p3), (.int p4), (.int p5)] maxLocals)) t := by
      intro t k
      refine a181 t ?_
      show Steps p.tables e below (T48.setTop (mkF m 116 #[.val (.int p0), .val (.int p1), .val (.int p2), .val (.int p3), .val (.int p4), .val (.int p5), .val (.int cc), .val (.int (4 : Int32)), .val (.ref b4), .val (.ref b23), .val (.ref b45), .unset, .unset] [(.int (0 : Int32)), (.ref b4), (.ref b45)])) _
      refine X48.iaload hx (j := (0 : Int32)) (v := (.int p0)) Ar182.1 (State.isArrayOf_alike hZ.alike Ar182.2.1) Ar182.2.2 hin182 hat182 (g := (mkF m 116 #[.val (.int p0), .val (.int p1), .val (.int p2), .val (.int p3), .val (.int p4), .val (.int p5), .val (.int cc), .val (.int (4 : Int32)), .val (.ref b4), .val (.ref b23), .val (.ref b45), .unset, .unset] [(.int (0 : Int32)), (.ref b4), (.ref b45)])) rfl rfl (hb hby at_116) _ ?_
      refine XS.aload X48.here hx rfl (hb hby at_117) rfl rfl ?_
      refine XS.iconst X48.here hx rfl (hb hby at_119) ?_
      exact k
    obtain ⟨cl184, Ar184, qc184, Sz184, Nn184, Hs184, Gs184⟩ := id ((V43.ext E45).keep K48q (ninS (Nat.ne_of_lt (Nat.lt_of_lt_of_le V43.lt (Nat.le_of_eq g45.symm))) nin0))
    have hin184 : ¬ ((0 : Int32) < 0 ∨ cl184.slots.size ≤ ((0 : Int32)).toNatClampNeg) := inb_of Sz184 ⟨by decide, by decide⟩
    have hat184 := Hs184.at hin184 (v := (.double (fv e0))) rfl
    have a185 : ∀ t, Steps p.tables e below (T48.setTop (mkF m 121 #[.val (.int p0), .val (.int p1), .val (.int p2), .val (.int p3), .val (.int p4), .val (.int p5), .val (.int cc), .val (.int (4 : Int32)), .val (.ref b4), .val (.ref b23), .val (.ref b45), .unset, .unset] [(.double (fv e0)), (.int p0), (.ref b45)])) t → Steps p.tables e below (s₁.setTop (entryFrame m #[(.int p0), (.int p1), (.int p2), (.int p3), (.int p4), (.int p5)] maxLocals)) t := by
      intro t k
      refine a183 t ?_
      show Steps p.tables e below (T48.setTop (mkF m 120 #[.val (.int p0), .val (.int p1), .val (.int p2), .val (.int p3), .val (.int p4), .val (.int p5), .val (.int cc), .val (.int (4 : Int32)), .val (.ref b4), .val (.ref b23), .val (.ref b45), .unset, .unset] [(.int (0 : Int32)), (.ref b23), (.int p0), (.ref b45)])) _
      refine X48.daload hx (j := (0 : Int32)) (v := (.double (fv e0))) Ar184.1 (State.isArrayOf_alike hZ.alike Ar184.2.1) Ar184.2.2 hin184 hat184 (g := (mkF m 120 #[.val (.int p0), .val (.int p1), .val (.int p2), .val (.int p3), .val (.int p4), .val (.int p5), .val (.int cc), .val (.int (4 : Int32)), .val (.ref b4), .val (.ref b23), .val (.ref b45), .unset, .unset] [(.int (0 : Int32)), (.ref b23), (.int p0), (.ref b45)])) rfl rfl (hb hby at_120) _ ?_
      exact k
    obtain ⟨cq186, kq186, q186a, q186b, q186c⟩ := isOf hZ rfl (A45.keep K48q)
    obtain ⟨_, _, ⟨T186, L186, k186, n186⟩, -, X186, ⟨Lc186, hQ186, l186, y186, z186⟩, st186⟩ := X48.virtualBack hx (y := (⟨"com/example/tillerfront/tillerfront/engine/Nearest", "offer", "(ID)V"⟩ : MethodName)) (z := (⟨"com/example/tillerfront/tillerfront/engine/Nearest", "offer", "(ID)V"⟩ : MethodName)) hown (mvT hZ (hw _ (List.mem_of_getElem? (i := 39) rfl))) (mvT hZ (hw _ (List.mem_of_getElem? (i := 40) rfl))) (notFace_of_selects (args := #[]) (mvT hZ (hw _ (List.mem_of_getElem? (i := 42) rfl)))) (mvT hZ (hw _ (List.mem_of_getElem? (i := 42) rfl))) (mvT hZ (hw _ (List.mem_of_getElem? (i := 41) rfl))) (by decide) (backOf (W := 0) (rmO l Z a0 hw [] b45 p0 ia48 da48 ki48 kd48 cc (0 : Int32) cN (runP (0 : Int32) cN [p0, p1, p2, p3] [e0, e1, e2, e3] 0).2.2 e0 (runP (0 : Int32) cN [p0, p1, p2, p3] [e0, e1, e2, e3] 0).1 (runP (0 : Int32) cN [p0, p1, p2, p3] [e0, e1, e2, e3] 0).2.1 fv T48.heap n0 (Nat.le_trans (Nat.le_trans (Nat.le_trans (Nat.le_trans (Nat.le_trans (Nat.le_trans (Nat.le_trans (Nat.le_trans (Nat.le_trans (Nat.le_trans (Nat.le_trans (Nat.le_trans Z0 E4.1) (Keep.of_wr W8).1) (Keep.of_wr W12).1) (Keep.of_wr W16).1) (Keep.of_wr W20).1) E23.1) (Keep.of_wr W28).1) (Keep.of_wr W33).1) (Keep.of_wr W38).1) (Keep.of_wr W43).1) E45.1) K48q.1) hf (A45.keep K48q) g_b45 GI48 GD48 FI48 FD48 FS48 PI48 PD48 (Nat.ne_of_lt (Nat.lt_of_lt_of_le F_size_b45.lt SI48)) (Nat.ne_of_lt (Nat.lt_of_lt_of_le F_size_b45.lt SD48)) nid48 hcc ⟨(show (0 : Int32).toInt = ((0 : Nat) : Int) by decide), (hinv 0).2.2.2⟩ (hinv 0).1 (hinv 0).2.1 (hinv 0).2.2.1 he0) hZ (hw _ (List.mem_of_getElem? (i := 43) rfl)) (hw _ (List.mem_of_getElem? (i := 4) rfl)) (by decide) (by decide)) q186a q186c (g := (mkF m 121 #[.val (.int p0), .val (.int p1), .val (.int p2), .val (.int p3), .val (.int p4), .val (.int p5), .val (.int cc), .val (.int (4 : Int32)), .val (.ref b4), .val (.ref b23), .val (.ref b45), .unset, .unset] [(.double (fv e0)), (.int p0), (.ref b45)])) rfl (by rw [hml]; rfl) (Steps.refl _) (argsL := [(.int p0), (.double (fv e0))]) (rest := []) (lenOf own_pd7 rfl) rfl (by show 2 * 0 + _ ≤ _; exact Nat.le_of_eq rfl) (hb hby at_121) (fun _ _ => ⟨rfl, rfl, (by decide : 5 + 0 ≤ _), (by decide : 21 + 0 ≤ _)⟩)
    dsimp only [Pt.U, Pt.locs, Pt.cells, Pt.slots] at X186 l186 y186 z186 st186 hQ186
    subst l186 y186 z186
    obtain ⟨rfl, N186q, K186q, FI186, FD186, sq186, FS186, hq186, AI186, AD186⟩ := hQ186
    have N186 := Fr.app N48 N186q
    have KK186 : Keep h0 T186.heap [] := Keep.trans KK48 K186q (allS (Or.inr sz_b45) (allS (Or.inr (Nat.le_trans (K45).1 SI48)) (allS (Or.inr (Nat.le_trans (K45).1 SD48)) all0)))
    have PI186 : Arv Z T186.heap ia48 ki48 .int cc ((runP (0 : Int32) cN [p0, p1, p2, p3] [e0, e1, e2, e3] 1).1.map Value.int) (.int (0 : Int32)) := AI186
    have PD186 : Arv Z T186.heap da48 kd48 .double cc ((runP (0 : Int32) cN [p0, p1, p2, p3] [e0, e1, e2, e3] 1).2.1.map (fd fv)) (.double (0 : UInt64)) := AD186
    have hz186 : sq186.toInt = (((runP (0 : Int32) cN [p0, p1, p2, p3] [e0, e1, e2, e3] 1).2.2 : Nat) : Int) := hq186
    have a187 : ∀ t, Steps p.tables e below (T186.setTop (mkF m 124 #[.val (.int p0), .val (.int p1), .val (.int p2), .val (.int p3), .val (.int p4), .val (.int p5), .val (.int cc), .val (.int (4 : Int32)), .val (.ref b4), .val (.ref b23), .val (.ref b45), .unset, .unset] [])) t → Steps p.tables e below (s₁.setTop (entryFrame m #[(.int p0), (.int p1), (.int p2), (.int p3), (.int p4), (.int p5)] maxLocals)) t := fun t k => a185 t (st186.trans k)
    have a188 : ∀ t, Steps p.tables e below (T186.setTop (mkF m 135 #[.val (.int p0), .val (.int p1), .val (.int p2), .val (.int p3), .val (.int p4), .val (.int p5), .val (.int cc), .val (.int (4 : Int32)), .val (.ref b4), .val (.ref b23), .val (.ref b45), .unset, .unset] [(.int (1 : Int32)), (.ref b4), (.ref b45)])) t → Steps p.tables e below (s₁.setTop (entryFrame m #[(.int p0), (.int p1), (.int p2), (.int p3), (.int p4), (.int p5)] maxLocals)) t := by
      intro t k
      refine a187 t ?_
      show Steps p.tables e below (T186.setTop (mkF m 124 #[.val (.int p0), .val (.int p1), .val (.int p2), .val (.int p3), .val (.int p4), .val (.int p5), .val (.int cc), .val (.int (4 : Int32)), .val (.ref b4), .val (.ref b23), .val (.ref b45), .unset, .unset] [])) _
      refine XS.iload X186.here hx rfl (hb hby at_124) rfl ?_
      refine XS.iconst X186.here hx rfl (hb hby at_126) ?_
      refine XS.icmpNo X186.here hx rfl (hb hby at_127) rfl (tlt (by decide)).2.2.2 ?_
      refine XS.aload X186.here hx rfl (hb hby at_130) rfl rfl ?_
      refine XS.aload X186.here hx rfl (hb hby at_132) rfl rfl ?_
      refine XS.iconst X186.here hx rfl (hb hby at_134) ?_
      exact k
    obtain ⟨cl189, Ar189, qc189, Sz189, Nn189, Hs189, Gs189⟩ := id ((((Arv.other (Arv.other (Arv.other (Arv.other (V20.ext E23) W28 (Nat.ne_of_lt (Nat.lt_of_lt_of_le V20.lt (Nat.le_of_eq g23.symm)))) W33 (Nat.ne_of_lt (Nat.lt_of_lt_of_le V20.lt (Nat.le_of_eq g23.symm)))) W38 (Nat.ne_of_lt (Nat.lt_of_lt_of_le V20.lt (Nat.le_of_eq g23.symm)))) W43 (Nat.ne_of_lt (Nat.lt_of_lt_of_le V20.lt (Nat.le_of_eq g23.symm)))).ext E45).keep K48q (ninS (Nat.ne_of_lt (Nat.lt_of_lt_of_le (Arv.other (Arv.other (Arv.other (Arv.other (V20.ext E23) W28 (Nat.ne_of_lt (Nat.lt_of_lt_of_le V20.lt (Nat.le_of_eq g23.symm)))) W33 (Nat.ne_of_lt (Nat.lt_of_lt_of_le V20.lt (Nat.le_of_eq g23.symm)))) W38 (Nat.ne_of_lt (Nat.lt_of_lt_of_le V20.lt (Nat.le_of_eq g23.symm)))) W43 (Nat.ne_of_lt (Nat.lt_of_lt_of_le V20.lt (Nat.le_of_eq g23.symm)))).lt (Nat.le_of_eq g45.symm))) nin0)).keep K186q (ninS (Nat.ne_of_lt (Nat.lt_of_lt_of_le (Arv.other (Arv.other (Arv.other (Arv.other (V20.ext E23) W28 (Nat.ne_of_lt (Nat.lt_of_lt_of_le V20.lt (Nat.le_of_eq g23.symm)))) W33 (Nat.ne_of_lt (Nat.lt_of_lt_of_le V20.lt (Nat.le_of_eq g23.symm)))) W38 (Nat.ne_of_lt (Nat.lt_of_lt_of_le V20.lt (Nat.le_of_eq g23.symm)))) W43 (Nat.ne_of_lt (Nat.lt_of_lt_of_le V20.lt (Nat.le_of_eq g23.symm)))).lt (Nat.le_of_eq g45.symm))) (ninS (Nat.ne_of_lt (Nat.lt_of_lt_of_le ((Arv.other (Arv.other (Arv.other (Arv.other (V20.ext E23) W28 (Nat.ne_of_lt (Nat.lt_of_lt_of_le V20.lt (Nat.le_of_eq g23.symm)))) W33 (Nat.ne_of_lt (Nat.lt_of_lt_of_le V20.lt (Nat.le_of_eq g23.symm)))) W38 (Nat.ne_of_lt (Nat.lt_of_lt_of_le V20.lt (Nat.le_of_eq g23.symm)))) W43 (Nat.ne_of_lt (Nat.lt_of_lt_of_le V20.lt (Nat.le_of_eq g23.symm)))).ext E45).lt SI48)) (ninS (Nat.ne_of_lt (Nat.lt_of_lt_of_le ((Arv.other (Arv.other (Arv.other (Arv.other (V20.ext E23) W28 (Nat.ne_of_lt (Nat.lt_of_lt_of_le V20.lt (Nat.le_of_eq g23.symm)))) W33 (Nat.ne_of_lt (Nat.lt_of_lt_of_le V20.lt (Nat.le_of_eq g23.symm)))) W38 (Nat.ne_of_lt (Nat.lt_of_lt_of_le V20.lt (Nat.le_of_eq g23.symm)))) W43 (Nat.ne_of_lt (Nat.lt_of_lt_of_le V20.lt (Nat.le_of_eq g23.symm)))).ext E45).lt SD48)) nin0))))
    have hin189 : ¬ ((1 : Int32) < 0 ∨ cl189.slots.size ≤ ((1 : Int32)).toNatClampNeg) := inb_of Sz189 ⟨by decide, by decide⟩
    have hat189 := Hs189.at hin189 (v := (.int p1)) rfl
    have a190 : ∀ t, Steps p.tables e below (T186.setTop (mkF m 139 #[.val (.int p0), .val (.int p1), .val (.int p2), .val (.int p3), .val (.int p4), .val (.int p5), .val (.int cc), .val (.int (4 : Int32)), .val (.ref b4), .val (.ref b23), .val (.ref b45), .unset, .unset] [(.int (1 : Int32)), (.ref b23), (.int p1), (.ref b45)])) t → Steps p.tables e below (s₁.setTop (entryFrame m #[(.int p0), (.int p1), (.int p2), (.int p3), (.int p4), (.int p5)] maxLocals)) t := by
      intro t k
      refine a188 t ?_
      show Steps p.tables e below (T186.setTop (mkF m 135 #[.val (.int p0), .val (.int p1), .val (.int p2), .val (.int p3), .val (.int p4), .val (.int p5), .val (.int cc), .val (.int (4 : Int32)), .val (.ref b4), .val (.ref b23), .val (.ref b45), .unset, .unset] [(.int (1 : Int32)), (.ref b4), (.ref b45)])) _
      refine X186.iaload hx (j := (1 : Int32)) (v := (.int p1)) Ar189.1 (State.isArrayOf_alike hZ.alike Ar189.2.1) Ar189.2.2 hin189 hat189 (g := (mkF m 135 #[.val (.int p0), .val (.int p1), .val (.int p2), .val (.int p3), .val (.int p4), .val (.int p5), .val (.int cc), .val (.int (4 : Int32)), .val (.ref b4), .val (.ref b23), .val (.ref b45), .unset, .unset] [(.int (1 : Int32)), (.ref b4), (.ref b45)])) rfl rfl (hb hby at_135) _ ?_
      refine XS.aload X186.here hx rfl (hb hby at_136) rfl rfl ?_
      refine XS.iconst X186.here hx rfl (hb hby at_138) ?_
      exact k
    obtain ⟨cl191, Ar191, qc191, Sz191, Nn191, Hs191, Gs191⟩ := id (((V43.ext E45).keep K48q (ninS (Nat.ne_of_lt (Nat.lt_of_lt_of_le V43.lt (Nat.le_of_eq g45.symm))) nin0)).keep K186q (ninS (Nat.ne_of_lt (Nat.lt_of_lt_of_le V43.lt (Nat.le_of_eq g45.symm))) (ninS (Nat.ne_of_lt (Nat.lt_of_lt_of_le (V43.ext E45).lt SI48)) (ninS (Nat.ne_of_lt (Nat.lt_of_lt_of_le (V43.ext E45).lt SD48)) nin0))))
    have hin191 : ¬ ((1 : Int32) < 0 ∨ cl191.slots.size ≤ ((1 : Int32)).toNatClampNeg) := inb_of Sz191 ⟨by decide, by decide⟩
    have hat191 := Hs191.at hin191 (v := (.double (fv e1))) rfl
    have a192 : ∀ t, Steps p.tables e below (T186.setTop (mkF m 140 #[.val (.int p0), .val (.int p1), .val (.int p2), .val (.int p3), .val (.int p4), .val (.int p5), .val (.int cc), .val (.int (4 : Int32)), .val (.ref b4), .val (.ref b23), .val (.ref b45), .unset, .unset] [(.double (fv e1)), (.int p1), (.ref b45)])) t → Steps p.tables e below (s₁.setTop (entryFrame m #[(.int p0), (.int p1), (.int p2), (.int p3), (.int p4), (.int p5)] maxLocals)) t := by
      intro t k
      refine a190 t ?_
      show Steps p.tables e below (T186.setTop (mkF m 139 #[.val (.int p0), .val (.int p1), .val (.int p2), .val (.int p3), .val (.int p4), .val (.int p5), .val (.int cc), .val (.int (4 : Int32)), .val (.ref b4), .val (.ref b23), .val (.ref b45), .unset, .unset] [(.int (1 : Int32)), (.ref b23), (.int p1), (.ref b45)])) _
      refine X186.daload hx (j := (1 : Int32)) (v := (.double (fv e1))) Ar191.1 (State.isArrayOf_alike hZ.alike Ar191.2.1) Ar191.2.2 hin191 hat191 (g := (mkF m 139 #[.val (.int p0), .val (.int p1), .val (.int p2), .val (.int p3), .val (.int p4), .val (.int p5), .val (.int cc), .val (.int (4 : Int32)), .val (.ref b4), .val (.ref b23), .val (.ref b45), .unset, .unset] [(.int (1 : Int32)), (.ref b23), (.int p1), (.ref b45)])) rfl rfl (hb hby at_139) _ ?_
      exact k
    obtain ⟨cq193, kq193, q193a, q193b, q193c⟩ := isOf hZ rfl ((A45.keep K48q).keep K186q)
    obtain ⟨_, _, ⟨T193, L193, k193, n193⟩, -, X193, ⟨Lc193, hQ193, l193, y193, z193⟩, st193⟩ := X186.virtualBack hx (y := (⟨"com/example/tillerfront/tillerfront/engine/Nearest", "offer", "(ID)V"⟩ : MethodName)) (z := (⟨"com/example/tillerfront/tillerfront/engine/Nearest", "offer", "(ID)V"⟩ : MethodName)) hown (mvT hZ (hw _ (List.mem_of_getElem? (i := 39) rfl))) (mvT hZ (hw _ (List.mem_of_getElem? (i := 40) rfl))) (notFace_of_selects (args := #[]) (mvT hZ (hw _ (List.mem_of_getElem? (i := 42) rfl)))) (mvT hZ (hw _ (List.mem_of_getElem? (i := 42) rfl))) (mvT hZ (hw _ (List.mem_of_getElem? (i := 41) rfl))) (by decide) (backOf (W := 0) (rmO l Z a0 hw [] b45 p1 ia48 da48 ki48 kd48 cc sq186 cN (runP (0 : Int32) cN [p0, p1, p2, p3] [e0, e1, e2, e3] 1).2.2 e1 (runP (0 : Int32) cN [p0, p1, p2, p3] [e0, e1, e2, e3] 1).1 (runP (0 : Int32) cN [p0, p1, p2, p3] [e0, e1, e2, e3] 1).2.1 fv T186.heap n0 (Nat.le_trans (Nat.le_trans (Nat.le_trans (Nat.le_trans (Nat.le_trans (Nat.le_trans (Nat.le_trans (Nat.le_trans (Nat.le_trans (Nat.le_trans (Nat.le_trans (Nat.le_trans (Nat.le_trans Z0 E4.1) (Keep.of_wr W8).1) (Keep.of_wr W12).1) (Keep.of_wr W16).1) (Keep.of_wr W20).1) E23.1) (Keep.of_wr W28).1) (Keep.of_wr W33).1) (Keep.of_wr W38).1) (Keep.of_wr W43).1) E45.1) K48q.1) K186q.1) hf ((A45.keep K48q).keep K186q) g_b45 GI48 GD48 FI186 FD186 FS186 PI186 PD186 (Nat.ne_of_lt (Nat.lt_of_lt_of_le F_size_b45.lt SI48)) (Nat.ne_of_lt (Nat.lt_of_lt_of_le F_size_b45.lt SD48)) nid48 hcc ⟨hz186, (hinv 1).2.2.2⟩ (hinv 1).1 (hinv 1).2.1 (hinv 1).2.2.1 he1) hZ (hw _ (List.mem_of_getElem? (i := 43) rfl)) (hw _ (List.mem_of_getElem? (i := 4) rfl)) (by decide) (by decide)) q193a q193c (g := (mkF m 140 #[.val (.int p0), .val (.int p1), .val (.int p2), .val (.int p3), .val (.int p4), .val (.int p5), .val (.int cc), .val (.int (4 : Int32)), .val (.ref b4), .val (.ref b23), .val (.ref b45), .unset, .unset] [(.double (fv e1)), (.int p1), (.ref b45)])) rfl (by rw [hml]; rfl) (Steps.refl _) (argsL := [(.int p1), (.double (fv e1))]) (rest := []) (lenOf own_pd7 rfl) rfl (by show 2 * 0 + _ ≤ _; exact Nat.le_of_eq rfl) (hb hby at_140) (fun _ _ => ⟨rfl, rfl, (by decide : 5 + 0 ≤ _), (by decide : 21 + 0 ≤ _)⟩)
    dsimp only [Pt.U, Pt.locs, Pt.cells, Pt.slots] at X193 l193 y193 z193 st193 hQ193
    subst l193 y193 z193
    obtain ⟨rfl, N193q, K193q, FI193, FD193, sq193, FS193, hq193, AI193, AD193⟩ := hQ193
    have N193 := Fr.app N186 N193q
    have KK193 : Keep h0 T193.heap [] := Keep.trans KK186 K193q (allS (Or.inr sz_b45) (allS (Or.inr (Nat.le_trans (K45).1 SI48)) (allS (Or.inr (Nat.le_trans (K45).1 SD48)) all0)))
    have PI193 : Arv Z T193.heap ia48 ki48 .int cc ((runP (0 : Int32) cN [p0, p1, p2, p3] [e0, e1, e2, e3] 2).1.map Value.int) (.int (0 : Int32)) := AI193
    have PD193 : Arv Z T193.heap da48 kd48 .double cc ((runP (0 : Int32) cN [p0, p1, p2, p3] [e0, e1, e2, e3] 2).2.1.map (fd fv)) (.double (0 : UInt64)) := AD193
    have hz193 : sq193.toInt = (((runP (0 : Int32) cN [p0, p1, p2, p3] [e0, e1, e2, e3] 2).2.2 : Nat) : Int) := hq193
    have a194 : ∀ t, Steps p.tables e below (T193.setTop (mkF m 143 #[.val (.int p0), .val (.int p1), .val (.int p2), .val (.int p3), .val (.int p4), .val (.int p5), .val (.int cc), .val (.int (4 : Int32)), .val (.ref b4), .val (.ref b23), .val (.ref b45), .unset, .unset] [])) t → Steps p.tables e below (s₁.setTop (entryFrame m #[(.int p0), (.int p1), (.int p2), (.int p3), (.int p4), (.int p5)] maxLocals)) t := fun t k => a192 t (st193.trans k)
    have a195 : ∀ t, Steps p.tables e below (T193.setTop (mkF m 154 #[.val (.int p0), .val (.int p1), .val (.int p2), .val (.int p3), .val (.int p4), .val (.int p5), .val (.int cc), .val (.int (4 : Int32)), .val (.ref b4), .val (.ref b23), .val (.ref b45), .unset, .unset] [(.int (2 : Int32)), (.ref b4), (.ref b45)])) t → Steps p.tables e below (s₁.setTop (entryFrame m #[(.int p0), (.int p1), (.int p2), (.int p3), (.int p4), (.int p5)] maxLocals)) t := by
      intro t k
      refine a194 t ?_
      show Steps p.tables e below (T193.setTop (mkF m 143 #[.val (.int p0), .val (.int p1), .val (.int p2), .val (.int p3), .val (.int p4), .val (.int p5), .val (.int cc), .val (.int (4 : Int32)), .val (.ref b4), .val (.ref b23), .val (.ref b45), .unset, .unset] [])) _
      refine XS.iload X193.here hx rfl (hb hby at_143) rfl ?_
      refine XS.iconst X193.here hx rfl (hb hby at_145) ?_
      refine XS.icmpNo X193.here hx rfl (hb hby at_146) rfl (tlt (by decide)).2.2.2 ?_
      refine XS.aload X193.here hx rfl (hb hby at_149) rfl rfl ?_
      refine XS.aload X193.here hx rfl (hb hby at_151) rfl rfl ?_
      refine XS.iconst X193.here hx rfl (hb hby at_153) ?_
      exact k
    obtain ⟨cl196, Ar196, qc196, Sz196, Nn196, Hs196, Gs196⟩ := id (((((Arv.other (Arv.other (Arv.other (Arv.other (V20.ext E23) W28 (Nat.ne_of_lt (Nat.lt_of_lt_of_le V20.lt (Nat.le_of_eq g23.symm)))) W33 (Nat.ne_of_lt (Nat.lt_of_lt_of_le V20.lt (Nat.le_of_eq g23.symm)))) W38 (Nat.ne_of_lt (Nat.lt_of_lt_of_le V20.lt (Nat.le_of_eq g23.symm)))) W43 (Nat.ne_of_lt (Nat.lt_of_lt_of_le V20.lt (Nat.le_of_eq g23.symm)))).ext E45).keep K48q (ninS (Nat.ne_of_lt (Nat.lt_of_lt_of_le (Arv.other (Arv.other (Arv.other (Arv.other (V20.ext E23) W28 (Nat.ne_of_lt (Nat.lt_of_lt_of_le V20.lt (Nat.le_of_eq g23.symm)))) W33 (Nat.ne_of_lt (Nat.lt_of_lt_of_le V20.lt (Nat.le_of_eq g23.symm)))) W38 (Nat.ne_of_lt (Nat.lt_of_lt_of_le V20.lt (Nat.le_of_eq g23.symm)))) W43 (Nat.ne_of_lt (Nat.lt_of_lt_of_le V20.lt (Nat.le_of_eq g23.symm)))).lt (Nat.le_of_eq g45.symm))) nin0)).keep K186q (ninS (Nat.ne_of_lt (Nat.lt_of_lt_of_le (Arv.other (Arv.other (Arv.other (Arv.other (V20.ext E23) W28 (Nat.ne_of_lt (Nat.lt_of_lt_of_le V20.lt (Nat.le_of_eq g23.symm)))) W33 (Nat.ne_of_lt (Nat.lt_of_lt_of_le V20.lt (Nat.le_of_eq g23.symm)))) W38 (Nat.ne_of_lt (Nat.lt_of_lt_of_le V20.lt (Nat.le_of_eq g23.symm)))) W43 (Nat.ne_of_lt (Nat.lt_of_lt_of_le V20.lt (Nat.le_of_eq g23.symm)))).lt (Nat.le_of_eq g45.symm))) (ninS (Nat.ne_of_lt (Nat.lt_of_lt_of_le ((Arv.other (Arv.other (Arv.other (Arv.other (V20.ext E23) W28 (Nat.ne_of_lt (Nat.lt_of_lt_of_le V20.lt (Nat.le_of_eq g23.symm)))) W33 (Nat.ne_of_lt (Nat.lt_of_lt_of_le V20.lt (Nat.le_of_eq g23.symm)))) W38 (Nat.ne_of_lt (Nat.lt_of_lt_of_le V20.lt (Nat.le_of_eq g23.symm)))) W43 (Nat.ne_of_lt (Nat.lt_of_lt_of_le V20.lt (Nat.le_of_eq g23.symm)))).ext E45).lt SI48)) (ninS (Nat.ne_of_lt (Nat.lt_of_lt_of_le ((Arv.other (Arv.other (Arv.other (Arv.other (V20.ext E23) W28 (Nat.ne_of_lt (Nat.lt_of_lt_of_le V20.lt (Nat.le_of_eq g23.symm)))) W33 (Nat.ne_of_lt (Nat.lt_of_lt_of_le V20.lt (Nat.le_of_eq g23.symm)))) W38 (Nat.ne_of_lt (Nat.lt_of_lt_of_le V20.lt (Nat.le_of_eq g23.symm)))) W43 (Nat.ne_of_lt (Nat.lt_of_lt_of_le V20.lt (Nat.le_of_eq g23.symm)))).ext E45).lt SD48)) nin0)))).keep K193q (ninS (Nat.ne_of_lt (Nat.lt_of_lt_of_le (Arv.other (Arv.other (Arv.other (Arv.other (V20.ext E23) W28 (Nat.ne_of_lt (Nat.lt_of_lt_of_le V20.lt (Nat.le_of_eq g23.symm)))) W33 (Nat.ne_of_lt (Nat.lt_of_lt_of_le V20.lt (Nat.le_of_eq g23.symm)))) W38 (Nat.ne_of_lt (Nat.lt_of_lt_of_le V20.lt (Nat.le_of_eq g23.symm)))) W43 (Nat.ne_of_lt (Nat.lt_of_lt_of_le V20.lt (Nat.le_of_eq g23.symm)))).lt (Nat.le_of_eq g45.symm))) (ninS (Nat.ne_of_lt (Nat.lt_of_lt_of_le ((Arv.other (Arv.other (Arv.other (Arv.other (V20.ext E23) W28 (Nat.ne_of_lt (Nat.lt_of_lt_of_le V20.lt (Nat.le_of_eq g23.symm)))) W33 (Nat.ne_of_lt (Nat.lt_of_lt_of_le V20.lt (Nat.le_of_eq g23.symm)))) W38 (Nat.ne_of_lt (Nat.lt_of_lt_of_le V20.lt (Nat.le_of_eq g23.symm)))) W43 (Nat.ne_of_lt (Nat.lt_of_lt_of_le V20.lt (Nat.le_of_eq g23.symm)))).ext E45).lt SI48)) (ninS (Nat.ne_of_lt (Nat.lt_of_lt_of_le ((Arv.other (Arv.other (Arv.other (Arv.other (V20.ext E23) W28 (Nat.ne_of_lt (Nat.lt_of_lt_of_le V20.lt (Nat.le_of_eq g23.symm)))) W33 (Nat.ne_of_lt (Nat.lt_of_lt_of_le V20.lt (Nat.le_of_eq g23.symm)))) W38 (Nat.ne_of_lt (Nat.lt_of_lt_of_le V20.lt (Nat.le_of_eq g23.symm)))) W43 (Nat.ne_of_lt (Nat.lt_of_lt_of_le V20.lt (Nat.le_of_eq g23.symm)))).ext E45).lt SD48)) nin0))))
    have hin196 : ¬ ((2 : Int32) < 0 ∨ cl196.slots.size ≤ ((2 : Int32)).toNatClampNeg) := inb_of Sz196 ⟨by decide, by decide⟩
    have hat196 := Hs196.at hin196 (v := (.int p2)) rfl
    have a197 : ∀ t, Steps p.tables e below (T193.setTop (mkF m 158 #[.val (.int p0), .val (.int p1), .val (.int p2), .val (.int p3), .val (.int p4), .val (.int p5), .val (.int cc), .val (.int (4 : Int32)), .val (.ref b4), .val (.ref b23), .val (.ref b45), .unset, .unset] [(.int (2 : Int32)), (.ref b23), (.int p2), (.ref b45)])) t → Steps p.tables e below (s₁.setTop (entryFrame m #[(.int p0), (.int p1), (.int p2), (.int p3), (.int p4), (.int p5)] maxLocals)) t := by
      intro t k
      refine a195 t ?_
      show Steps p.tables e below (T193.setTop (mkF m 154 #[.val (.int p0), .val (.int p1), .val (.int p2), .val (.int p3), .val (.int p4), .val (.int p5), .val (.int cc), .val (.int (4 : Int32)), .val (.ref b4), .val (.ref b23), .val (.ref b45), .unset, .unset] [(.int (2 : Int32)), (.ref b4), (.ref b45)])) _
      refine X193.iaload hx (j := (2 : Int32)) (v := (.int p2)) Ar196.1 (State.isArrayOf_alike hZ.alike Ar196.2.1) Ar196.2.2 hin196 hat196 (g := (mkF m 154 #[.val (.int p0), .val (.int p1), .val (.int p2), .val (.int p3), .val (.int p4), .val (.int p5), .val (.int cc), .val (.int (4 : Int32)), .val (.ref b4), .val (.ref b23), .val (.ref b45), .unset, .unset] [(.int (2 : Int32)), (.ref b4), (.ref b45)])) rfl rfl (hb hby at_154) _ ?_
      refine XS.aload X193.here hx rfl (hb hby at_155) rfl rfl ?_
      refine XS.iconst X193.here hx rfl (hb hby at_157) ?_
      exact k
    obtain ⟨cl198, Ar198, qc198, Sz198, Nn198, Hs198, Gs198⟩ := id ((((V43.ext E45).keep K48q (ninS (Nat.ne_of_lt (Nat.lt_of_lt_of_le V43.lt (Nat.le_of_eq g45.symm))) nin0)).keep K186q (ninS (Nat.ne_of_lt (Nat.lt_of_lt_of_le V43.lt (Nat.le_of_eq g45.symm))) (ninS (Nat.ne_of_lt (Nat.lt_of_lt_of_le (V43.ext E45).lt SI48)) (ninS (Nat.ne_of_lt (Nat.lt_of_lt_of_le (V43.ext E45).lt SD48)) nin0)))).keep K193q (ninS (Nat.ne_of_lt (Nat.lt_of_lt_of_le V43.lt (Nat.le_of_eq g45.symm))) (ninS (Nat.ne_of_lt (Nat.lt_of_lt_of_le (V43.ext E45).lt SI48)) (ninS (Nat.ne_of_lt (Nat.lt_of_lt_of_le (V43.ext E45).lt SD48)) nin0))))
    have hin198 : ¬ ((2 : Int32) < 0 ∨ cl198.slots.size ≤ ((2 : Int32)).toNatClampNeg) := inb_of Sz198 ⟨by decide, by decide⟩
    have hat198 := Hs198.at hin198 (v := (.double (fv e2))) rfl
    have a199 : ∀ t, Steps p.tables e below (T193.setTop (mkF m 159 #[.val (.int p0), .val (.int p1), .val (.int p2), .val (.int p3), .val (.int p4), .val (.int p5), .val (.int cc), .val (.int (4 : Int32)), .val (.ref b4), .val (.ref b23), .val (.ref b45), .unset, .unset] [(.double (fv e2)), (.int p2), (.ref b45)])) t → Steps p.tables e below (s₁.setTop (entryFrame m #[(.int p0), (.int p1), (.int p2), (.int p3), (.int p4), (.int p5)] maxLocals)) t := by
      intro t k
      refine a197 t ?_
      show Steps p.tables e below (T193.setTop (mkF m 158 #[.val (.int p0), .val (.int p1), .val (.int p2), .val (.int p3), .val (.int p4), .val (.int p5), .val (.int cc), .val (.int (4 : Int32)), .val (.ref b4), .val (.ref b23), .val (.ref b45), .unset, .unset] [(.int (2 : Int32)), (.ref b23), (.int p2), (.ref b45)])) _
      refine X193.daload hx (j := (2 : Int32)) (v := (.double (fv e2))) Ar198.1 (State.isArrayOf_alike hZ.alike Ar198.2.1) Ar198.2.2 hin198 hat198 (g := (mkF m 158 #[.val (.int p0), .val (.int p1), .val (.int p2), .val (.int p3), .val (.int p4), .val (.int p5), .val (.int cc), .val (.int (4 : Int32)), .val (.ref b4), .val (.ref b23), .val (.ref b45), .unset, .unset] [(.int (2 : Int32)), (.ref b23), (.int p2), (.ref b45)])) rfl rfl (hb hby at_158) _ ?_
      exact k
    obtain ⟨cq200, kq200, q200a, q200b, q200c⟩ := isOf hZ rfl (((A45.keep K48q).keep K186q).keep K193q)
    obtain ⟨_, _, ⟨T200, L200, k200, n200⟩, -, X200, ⟨Lc200, hQ200, l200, y200, z200⟩, st200⟩ := X193.virtualBack hx (y := (⟨"com/example/tillerfront/tillerfront/engine/Nearest", "offer", "(ID)V"⟩ : MethodName)) (z := (⟨"com/example/tillerfront/tillerfront/engine/Nearest", "offer", "(ID)V"⟩ : MethodName)) hown (mvT hZ (hw _ (List.mem_of_getElem? (i := 39) rfl))) (mvT hZ (hw _ (List.mem_of_getElem? (i := 40) rfl))) (notFace_of_selects (args := #[]) (mvT hZ (hw _ (List.mem_of_getElem? (i := 42) rfl)))) (mvT hZ (hw _ (List.mem_of_getElem? (i := 42) rfl))) (mvT hZ (hw _ (List.mem_of_getElem? (i := 41) rfl))) (by decide) (backOf (W := 0) (rmO l Z a0 hw [] b45 p2 ia48 da48 ki48 kd48 cc sq193 cN (runP (0 : Int32) cN [p0, p1, p2, p3] [e0, e1, e2, e3] 2).2.2 e2 (runP (0 : Int32) cN [p0, p1, p2, p3] [e0, e1, e2, e3] 2).1 (runP (0 : Int32) cN [p0, p1, p2, p3] [e0, e1, e2, e3] 2).2.1 fv T193.heap n0 (Nat.le_trans (Nat.le_trans (Nat.le_trans (Nat.le_trans (Nat.le_trans (Nat.le_trans (Nat.le_trans (Nat.le_trans (Nat.le_trans (Nat.le_trans (Nat.le_trans (Nat.le_trans (Nat.le_trans (Nat.le_trans Z0 E4.1) (Keep.of_wr W8).1) (Keep.of_wr W12).1) (Keep.of_wr W16).1) (Keep.of_wr W20).1) E23.1) (Keep.of_wr W28).1) (Keep.of_wr W33).1) (Keep.of_wr W38).1) (Keep.of_wr W43).1) E45.1) K48q.1) K186q.1) K193q.1) hf (((A45.keep K48q).keep K186q).keep K193q) g_b45 GI48 GD48 FI193 FD193 FS193 PI193 PD193 (Nat.ne_of_lt (Nat.lt_of_lt_of_le F_size_b45.lt SI48)) (Nat.ne_of_lt (Nat.lt_of_lt_of_le F_size_b45.lt SD48)) nid48 hcc ⟨hz193, (hinv 2).2.2.2⟩ (hinv 2).1 (hinv 2).2.1 (hinv 2).2.2.1 he2) hZ (hw _ (List.mem_of_getElem? (i := 43) rfl)) (hw _ (List.mem_of_getElem? (i := 4) rfl)) (by decide) (by decide)) q200a q200c (g := (mkF m 159 #[.val (.int p0), .val (.int p1), .val (.int p2), .val (.int p3), .val (.int p4), .val (.int p5), .val (.int cc), .val (.int (4 : Int32)), .val (.ref b4), .val (.ref b23), .val (.ref b45), .unset, .unset] [(.double (fv e2)), (.int p2), (.ref b45)])) rfl (by rw [hml]; rfl) (Steps.refl _) (argsL := [(.int p2), (.double (fv e2))]) (rest := []) (lenOf own_pd7 rfl) rfl (by show 2 * 0 + _ ≤ _; exact Nat.le_of_eq rfl) (hb hby at_159) (fun _ _ => ⟨rfl, rfl, (by decide : 5 + 0 ≤ _), (by decide : 21 + 0 ≤ _)⟩)
    dsimp only [Pt.U, Pt.locs, Pt.cells, Pt.slots] at X200 l200 y200 z200 st200 hQ200
    subst l200 y200 z200
    obtain ⟨rfl, N200q, K200q, FI200, FD200, sq200, FS200, hq200, AI200, AD200⟩ := hQ200
    have N200 := Fr.app N193 N200q
    have KK200 : Keep h0 T200.heap [] := Keep.trans KK193 K200q (allS (Or.inr sz_b45) (allS (Or.inr (Nat.le_trans (K45).1 SI48)) (allS (Or.inr (Nat.le_trans (K45).1 SD48)) all0)))
    have PI200 : Arv Z T200.heap ia48 ki48 .int cc ((runP (0 : Int32) cN [p0, p1, p2, p3] [e0, e1, e2, e3] 3).1.map Value.int) (.int (0 : Int32)) := AI200
    have PD200 : Arv Z T200.heap da48 kd48 .double cc ((runP (0 : Int32) cN [p0, p1, p2, p3] [e0, e1, e2, e3] 3).2.1.map (fd fv)) (.double (0 : UInt64)) := AD200
    have hz200 : sq200.toInt = (((runP (0 : Int32) cN [p0, p1, p2, p3] [e0, e1, e2, e3] 3).2.2 : Nat) : Int) := hq200
    have a201 : ∀ t, Steps p.tables e below (T200.setTop (mkF m 162 #[.val (.int p0), .val (.int p1), .val (.int p2), .val (.int p3), .val (.int p4), .val (.int p5), .val (.int cc), .val (.int (4 : Int32)), .val (.ref b4), .val (.ref b23), .val (.ref b45), .unset, .unset] [])) t → Steps p.tables e below (s₁.setTop (entryFrame m #[(.int p0), (.int p1), (.int p2), (.int p3), (.int p4), (.int p5)] maxLocals)) t := fun t k => a199 t (st200.trans k)
    have a202 : ∀ t, Steps p.tables e below (T200.setTop (mkF m 173 #[.val (.int p0), .val (.int p1), .val (.int p2), .val (.int p3), .val (.int p4), .val (.int p5), .val (.int cc), .val (.int (4 : Int32)), .val (.ref b4), .val (.ref b23), .val (.ref b45), .unset, .unset] [(.int (3 : Int32)), (.ref b4), (.ref b45)])) t → Steps p.tables e below (s₁.setTop (entryFrame m #[(.int p0), (.int p1), (.int p2), (.int p3), (.int p4), (.int p5)] maxLocals)) t := by
      intro t k
      refine a201 t ?_
      show Steps p.tables e below (T200.setTop (mkF m 162 #[.val (.int p0), .val (.int p1), .val (.int p2), .val (.int p3), .val (.int p4), .val (.int p5), .val (.int cc), .val (.int (4 : Int32)), .val (.ref b4), .val (.ref b23), .val (.ref b45), .unset, .unset] [])) _
      refine XS.iload X200.here hx rfl (hb hby at_162) rfl ?_
      refine XS.iconst X200.here hx rfl (hb hby at_164) ?_
      refine XS.icmpNo X200.here hx rfl (hb hby at_165) rfl (tlt (by decide)).2.2.2 ?_
      refine XS.aload X200.here hx rfl (hb hby at_168) rfl rfl ?_
      refine XS.aload X200.here hx rfl (hb hby at_170) rfl rfl ?_
      refine XS.iconst X200.here hx rfl (hb hby at_172) ?_
      exact k
    obtain ⟨cl203, Ar203, qc203, Sz203, Nn203, Hs203, Gs203⟩ := id ((((((Arv.other (Arv.other (Arv.other (Arv.other (V20.ext E23) W28 (Nat.ne_of_lt (Nat.lt_of_lt_of_le V20.lt (Nat.le_of_eq g23.symm)))) W33 (Nat.ne_of_lt (Nat.lt_of_lt_of_le V20.lt (Nat.le_of_eq g23.symm)))) W38 (Nat.ne_of_lt (Nat.lt_of_lt_of_le V20.lt (Nat.le_of_eq g23.symm)))) W43 (Nat.ne_of_lt (Nat.lt_of_lt_of_le V20.lt (Nat.le_of_eq g23.symm)))).ext E45).keep K48q (ninS (Nat.ne_of_lt (Nat.lt_of_lt_of_le (Arv.other (Arv.other (Arv.other (Arv.other (V20.ext E23) W28 (Nat.ne_of_lt (Nat.lt_of_lt_of_le V20.lt (Nat.le_of_eq g23.symm)))) W33 (Nat.ne_of_lt (Nat.lt_of_lt_of_le V20.lt (Nat.le_of_eq g23.symm)))) W38 (Nat.ne_of_lt (Nat.lt_of_lt_of_le V20.lt (Nat.le_of_eq g23.symm)))) W43 (Nat.ne_of_lt (Nat.lt_of_lt_of_le V20.lt (Nat.le_of_eq g23.symm)))).lt (Nat.le_of_eq g45.symm))) nin0)).keep K186q (ninS (Nat.ne_of_lt (Nat.lt_of_lt_of_le (Arv.other (Arv.other (Arv.other (Arv.other (V20.ext E23) W28 (Nat.ne_of_lt (Nat.lt_of_lt_of_le V20.lt (Nat.le_of_eq g23.symm)))) W33 (Nat.ne_of_lt (Nat.lt_of_lt_of_le V20.lt (Nat.le_of_eq g23.symm)))) W38 (Nat.ne_of_lt (Nat.lt_of_lt_of_le V20.lt (Nat.le_of_eq g23.symm)))) W43 (Nat.ne_of_lt (Nat.lt_of_lt_of_le V20.lt (Nat.le_of_eq g23.symm)))).lt (Nat.le_of_eq g45.symm))) (ninS (Nat.ne_of_lt (Nat.lt_of_lt_of_le ((Arv.other (Arv.other (Arv.other (Arv.other (V20.ext E23) W28 (Nat.ne_of_lt (Nat.lt_of_lt_of_le V20.lt (Nat.le_of_eq g23.symm)))) W33 (Nat.ne_of_lt (Nat.lt_of_lt_of_le V20.lt (Nat.le_of_eq g23.symm)))) W38 (Nat.ne_of_lt (Nat.lt_of_lt_of_le V20.lt (Nat.le_of_eq g23.symm)))) W43 (Nat.ne_of_lt (Nat.lt_of_lt_of_le V20.lt (Nat.le_of_eq g23.symm)))).ext E45).lt SI48)) (ninS (Nat.ne_of_lt (Nat.lt_of_lt_of_le ((Arv.other (Arv.other (Arv.other (Arv.other (V20.ext E23) W28 (Nat.ne_of_lt (Nat.lt_of_lt_of_le V20.lt (Nat.le_of_eq g23.symm)))) W33 (Nat.ne_of_lt (Nat.lt_of_lt_of_le V20.lt (Nat.le_of_eq g23.symm)))) W38 (Nat.ne_of_lt (Nat.lt_of_lt_of_le V20.lt (Nat.le_of_eq g23.symm)))) W43 (Nat.ne_of_lt (Nat.lt_of_lt_of_le V20.lt (Nat.le_of_eq g23.symm)))).ext E45).lt SD48)) nin0)))).keep K193q (ninS (Nat.ne_of_lt (Nat.lt_of_lt_of_le (Arv.other (Arv.other (Arv.other (Arv.other (V20.ext E23) W28 (Nat.ne_of_lt (Nat.lt_of_lt_of_le V20.lt (Nat.le_of_eq g23.symm)))) W33 (Nat.ne_of_lt (Nat.lt_of_lt_of_le V20.lt (Nat.le_of_eq g23.symm)))) W38 (Nat.ne_of_lt (Nat.lt_of_lt_of_le V20.lt (Nat.le_of_eq g23.symm)))) W43 (Nat.ne_of_lt (Nat.lt_of_lt_of_le V20.lt (Nat.le_of_eq g23.symm)))).lt (Nat.le_of_eq g45.symm))) (ninS (Nat.ne_of_lt (Nat.lt_of_lt_of_le ((Arv.other (Arv.other (Arv.other (Arv.other (V20.ext E23) W28 (Nat.ne_of_lt (Nat.lt_of_lt_of_le V20.lt (Nat.le_of_eq g23.symm)))) W33 (Nat.ne_of_lt (Nat.lt_of_lt_of_le V20.lt (Nat.le_of_eq g23.symm)))) W38 (Nat.ne_of_lt (Nat.lt_of_lt_of_le V20.lt (Nat.le_of_eq g23.symm)))) W43 (Nat.ne_of_lt (Nat.lt_of_lt_of_le V20.lt (Nat.le_of_eq g23.symm)))).ext E45).lt SI48)) (ninS (Nat.ne_of_lt (Nat.lt_of_lt_of_le ((Arv.other (Arv.other (Arv.other (Arv.other (V20.ext E23) W28 (Nat.ne_of_lt (Nat.lt_of_lt_of_le V20.lt (Nat.le_of_eq g23.symm)))) W33 (Nat.ne_of_lt (Nat.lt_of_lt_of_le V20.lt (Nat.le_of_eq g23.symm)))) W38 (Nat.ne_of_lt (Nat.lt_of_lt_of_le V20.lt (Nat.le_of_eq g23.symm)))) W43 (Nat.ne_of_lt (Nat.lt_of_lt_of_le V20.lt (Nat.le_of_eq g23.symm)))).ext E45).lt SD48)) nin0)))).keep K200q (ninS (Nat.ne_of_lt (Nat.lt_of_lt_of_le (Arv.other (Arv.other (Arv.other (Arv.other (V20.ext E23) W28 (Nat.ne_of_lt (Nat.lt_of_lt_of_le V20.lt (Nat.le_of_eq g23.symm)))) W33 (Nat.ne_of_lt (Nat.lt_of_lt_of_le V20.lt (Nat.le_of_eq g23.symm)))) W38 (Nat.ne_of_lt (Nat.lt_of_lt_of_le V20.lt (Nat.le_of_eq g23.symm)))) W43 (Nat.ne_of_lt (Nat.lt_of_lt_of_le V20.lt (Nat.le_of_eq g23.symm)))).lt (Nat.le_of_eq g45.symm))) (ninS (Nat.ne_of_lt (Nat.lt_of_lt_of_le ((Arv.other (Arv.other (Arv.other (Arv.other (V20.ext E23) W28 (Nat.ne_of_lt (Nat.lt_of_lt_of_le V20.lt (Nat.le_of_eq g23.symm)))) W33 (Nat.ne_of_lt (Nat.lt_of_lt_of_le V20.lt (Nat.le_of_eq g23.symm)))) W38 (Nat.ne_of_lt (Nat.lt_of_lt_of_le V20.lt (Nat.le_of_eq g23.symm)))) W43 (Nat.ne_of_lt (Nat.lt_of_lt_of_le V20.lt (Nat.le_of_eq g23.symm)))).ext E45).lt SI48)) (ninS (Nat.ne_of_lt (Nat.lt_of_lt_of_le ((Arv.other (Arv.other (Arv.other (Arv.other (V20.ext E23) W28 (Nat.ne_of_lt (Nat.lt_of_lt_of_le V20.lt (Nat.le_of_eq g23.symm)))) W33 (Nat.ne_of_lt (Nat.lt_of_lt_of_le V20.lt (Nat.le_of_eq g23.symm)))) W38 (Nat.ne_of_lt (Nat.lt_of_lt_of_le V20.lt (Nat.le_of_eq g23.symm)))) W43 (Nat.ne_of_lt (Nat.lt_of_lt_of_le V20.lt (Nat.le_of_eq g23.symm)))).ext E45).lt SD48)) nin0))))
    have hin203 : ¬ ((3 : Int32) < 0 ∨ cl203.slots.size ≤ ((3 : Int32)).toNatClampNeg) := inb_of Sz203 ⟨by decide, by decide⟩
    have hat203 := Hs203.at hin203 (v := (.int p3)) rfl
    have a204 : ∀ t, Steps p.tables e below (T200.setTop (mkF m 177 #[.val (.int p0), .val (.int p1), .val (.int p2), .val (.int p3), .val (.int p4), .val (.int p5), .val (.int cc), .val (.int (4 : Int32)), .val (.ref b4), .val (.ref b23), .val (.ref b45), .unset, .unset] [(.int (3 : Int32)), (.ref b23), (.int p3), (.ref b45)])) t → Steps p.tables e below (s₁.setTop (entryFrame m #[(.int p0), (.int p1), (.int p2), (.int p3), (.int p4), (.int p5)] maxLocals)) t := by
      intro t k
      refine a202 t ?_
      show Steps p.tables e below (T200.setTop (mkF m 173 #[.val (.int p0), .val (.int p1), .val (.int p2), .val (.int p3), .val (.int p4), .val (.int p5), .val (.int cc), .val (.int (4 : Int32)), .val (.ref b4), .val (.ref b23), .val (.ref b45), .unset, .unset] [(.int (3 : Int32)), (.ref b4), (.ref b45)])) _
      refine X200.iaload hx (j := (3 : Int32)) (v := (.int p3)) Ar203.1 (State.isArrayOf_alike hZ.alike Ar203.2.1) Ar203.2.2 hin203 hat203 (g := (mkF m 173 #[.val (.int p0), .val (.int p1), .val (.int p2), .val (.int p3), .val (.int p4), .val (.int p5), .val (.int cc), .val (.int (4 : Int32)), .val (.ref b4), .val (.ref b23), .val (.ref b45), .unset, .unset] [(.int (3 : Int32)), (.ref b4), (.ref b45)])) rfl rfl (hb hby at_173) _ ?_
      refine XS.aload X200.here hx rfl (hb hby at_174) rfl rfl ?_
      refine XS.iconst X200.here hx rfl (hb hby at_176) ?_
      exact k
    obtain ⟨cl205, Ar205, qc205, Sz205, Nn205, Hs205, Gs205⟩ := id (((((V43.ext E45).keep K48q (ninS (Nat.ne_of_lt (Nat.lt_of_lt_of_le V43.lt (Nat.le_of_eq g45.symm))) nin0)).keep K186q (ninS (Nat.ne_of_lt (Nat.lt_of_lt_of_le V43.lt (Nat.le_of_eq g45.symm))) (ninS (Nat.ne_of_lt (Nat.lt_of_lt_of_le (V43.ext E45).lt SI48)) (ninS (Nat.ne_of_lt (Nat.lt_of_lt_of_le (V43.ext E45).lt SD48)) nin0)))).keep K193q (ninS (Nat.ne_of_lt (Nat.lt_of_lt_of_le V43.lt (Nat.le_of_eq g45.symm))) (ninS (Nat.ne_of_lt (Nat.lt_of_lt_of_le (V43.ext E45).lt SI48)) (ninS (Nat.ne_of_lt (Nat.lt_of_lt_of_le (V43.ext E45).lt SD48)) nin0)))).keep K200q (ninS (Nat.ne_of_lt (Nat.lt_of_lt_of_le V43.lt (Nat.le_of_eq g45.symm))) (ninS (Nat.ne_of_lt (Nat.lt_of_lt_of_le (V43.ext E45).lt SI48)) (ninS (Nat.ne_of_lt (Nat.lt_of_lt_of_le (V43.ext E45).lt SD48)) nin0))))
    have hin205 : ¬ ((3 : Int32) < 0 ∨ cl205.slots.size ≤ ((3 : Int32)).toNatClampNeg) := inb_of Sz205 ⟨by decide, by decide⟩
    have hat205 := Hs205.at hin205 (v := (.double (fv e3))) rfl
    have a206 : ∀ t, Steps p.tables e below (T200.setTop (mkF m 178 #[.val (.int p0), .val (.int p1), .val (.int p2), .val (.int p3), .val (.int p4), .val (.int p5), .val (.int cc), .val (.int (4 : Int32)), .val (.ref b4), .val (.ref b23), .val (.ref b45), .unset, .unset] [(.double (fv e3)), (.int p3), (.ref b45)])) t → Steps p.tables e below (s₁.setTop (entryFrame m #[(.int p0), (.int p1), (.int p2), (.int p3), (.int p4), (.int p5)] maxLocals)) t := by
      intro t k
      refine a204 t ?_
      show Steps p.tables e below (T200.setTop (mkF m 177 #[.val (.int p0), .val (.int p1), .val (.int p2), .val (.int p3), .val (.int p4), .val (.int p5), .val (.int cc), .val (.int (4 : Int32)), .val (.ref b4), .val (.ref b23), .val (.ref b45), .unset, .unset] [(.int (3 : Int32)), (.ref b23), (.int p3), (.ref b45)])) _
      refine X200.daload hx (j := (3 : Int32)) (v := (.double (fv e3))) Ar205.1 (State.isArrayOf_alike hZ.alike Ar205.2.1) Ar205.2.2 hin205 hat205 (g := (mkF m 177 #[.val (.int p0), .val (.int p1), .val (.int p2), .val (.int p3), .val (.int p4), .val (.int p5), .val (.int cc), .val (.int (4 : Int32)), .val (.ref b4), .val (.ref b23), .val (.ref b45), .unset, .unset] [(.int (3 : Int32)), (.ref b23), (.int p3), (.ref b45)])) rfl rfl (hb hby at_177) _ ?_
      exact k
    obtain ⟨cq207, kq207, q207a, q207b, q207c⟩ := isOf hZ rfl ((((A45.keep K48q).keep K186q).keep K193q).keep K200q)
    obtain ⟨_, _, ⟨T207, L207, k207, n207⟩, -, X207, ⟨Lc207, hQ207, l207, y207, z207⟩, st207⟩ := X200.virtualBack hx (y := (⟨"com/example/tillerfront/tillerfront/engine/Nearest", "offer", "(ID)V"⟩ : MethodName)) (z := (⟨"com/example/tillerfront/tillerfront/engine/Nearest", "offer", "(ID)V"⟩ : MethodName)) hown (mvT hZ (hw _ (List.mem_of_getElem? (i := 39) rfl))) (mvT hZ (hw _ (List.mem_of_getElem? (i := 40) rfl))) (notFace_of_selects (args := #[]) (mvT hZ (hw _ (List.mem_of_getElem? (i := 42) rfl)))) (mvT hZ (hw _ (List.mem_of_getElem? (i := 42) rfl))) (mvT hZ (hw _ (List.mem_of_getElem? (i := 41) rfl))) (by decide) (backOf (W := 0) (rmO l Z a0 hw [] b45 p3 ia48 da48 ki48 kd48 cc sq200 cN (runP (0 : Int32) cN [p0, p1, p2, p3] [e0, e1, e2, e3] 3).2.2 e3 (runP (0 : Int32) cN [p0, p1, p2, p3] [e0, e1, e2, e3] 3).1 (runP (0 : Int32) cN [p0, p1, p2, p3] [e0, e1, e2, e3] 3).2.1 fv T200.heap n0 (Nat.le_trans (Nat.le_trans (Nat.le_trans (Nat.le_trans (Nat.le_trans (Nat.le_trans (Nat.le_trans (Nat.le_trans (Nat.le_trans (Nat.le_trans (Nat.le_trans (Nat.le_trans (Nat.le_trans (Nat.le_trans (Nat.le_trans Z0 E4.1) (Keep.of_wr W8).1) (Keep.of_wr W12).1) (Keep.of_wr W16).1) (Keep.of_wr W20).1) E23.1) (Keep.of_wr W28).1) (Keep.of_wr W33).1) (Keep.of_wr W38).1) (Keep.of_wr W43).1) E45.1) K48q.1) K186q.1) K193q.1) K200q.1) hf ((((A45.keep K48q).keep K186q).keep K193q).keep K200q) g_b45 GI48 GD48 FI200 FD200 FS200 PI200 PD200 (Nat.ne_of_lt (Nat.lt_of_lt_of_le F_size_b45.lt SI48)) (Nat.ne_of_lt (Nat.lt_of_lt_of_le F_size_b45.lt SD48)) nid48 hcc ⟨hz200, (hinv 3).2.2.2⟩ (hinv 3).1 (hinv 3).2.1 (hinv 3).2.2.1 he3) hZ (hw _ (List.mem_of_getElem? (i := 43) rfl)) (hw _ (List.mem_of_getElem? (i := 4) rfl)) (by decide) (by decide)) q207a q207c (g := (mkF m 178 #[.val (.int p0), .val (.int p1), .val (.int p2), .val (.int p3), .val (.int p4), .val (.int p5), .val (.int cc), .val (.int (4 : Int32)), .val (.ref b4), .val (.ref b23), .val (.ref b45), .unset, .unset] [(.double (fv e3)), (.int p3), (.ref b45)])) rfl (by rw [hml]; rfl) (Steps.refl _) (argsL := [(.int p3), (.double (fv e3))]) (rest := []) (lenOf own_pd7 rfl) rfl (by show 2 * 0 + _ ≤ _; exact Nat.le_of_eq rfl) (hb hby at_178) (fun _ _ => ⟨rfl, rfl, (by decide : 5 + 0 ≤ _), (by decide : 21 + 0 ≤ _)⟩)
    dsimp only [Pt.U, Pt.locs, Pt.cells, Pt.slots] at X207 l207 y207 z207 st207 hQ207
    subst l207 y207 z207
    obtain ⟨rfl, N207q, K207q, FI207, FD207, sq207, FS207, hq207, AI207, AD207⟩ := hQ207
    have N207 := Fr.app N200 N207q
    have KK207 : Keep h0 T207.heap [] := Keep.trans KK200 K207q (allS (Or.inr sz_b45) (allS (Or.inr (Nat.le_trans (K45).1 SI48)) (allS (Or.inr (Nat.le_trans (K45).1 SD48)) all0)))
    have PI207 : Arv Z T207.heap ia48 ki48 .int cc ((runP (0 : Int32) cN [p0, p1, p2, p3] [e0, e1, e2, e3] 4).1.map Value.int) (.int (0 : Int32)) := AI207
    have PD207 : Arv Z T207.heap da48 kd48 .double cc ((runP (0 : Int32) cN [p0, p1, p2, p3] [e0, e1, e2, e3] 4).2.1.map (fd fv)) (.double (0 : UInt64)) := AD207
    have hz207 : sq207.toInt = (((runP (0 : Int32) cN [p0, p1, p2, p3] [e0, e1, e2, e3] 4).2.2 : Nat) : Int) := hq207
    have a208 : ∀ t, Steps p.tables e below (T207.setTop (mkF m 181 #[.val (.int p0), .val (.int p1), .val (.int p2), .val (.int p3), .val (.int p4), .val (.int p5), .val (.int cc), .val (.int (4 : Int32)), .val (.ref b4), .val (.ref b23), .val (.ref b45), .unset, .unset] [])) t → Steps p.tables e below (s₁.setTop (entryFrame m #[(.int p0), (.int p1), (.int p2), (.int p3), (.int p4), (.int p5)] maxLocals)) t := fun t k => a206 t (st207.trans k)
    have a209 : ∀ t, Steps p.tables e below (T207.setTop (mkF m 183 #[.val (.int p0), .val (.int p1), .val (.int p2), .val (.int p3), .val (.int p4), .val (.int p5), .val (.int cc), .val (.int (4 : Int32)), .val (.ref b4), .val (.ref b23), .val (.ref b45), .unset, .unset] [(.ref b45)])) t → Steps p.tables e below (s₁.setTop (entryFrame m #[(.int p0), (.int p1), (.int p2), (.int p3), (.int p4), (.int p5)] maxLocals)) t := by
      intro t k
      refine a208 t ?_
      show Steps p.tables e below (T207.setTop (mkF m 181 #[.val (.int p0), .val (.int p1), .val (.int p2), .val (.int p3), .val (.int p4), .val (.int p5), .val (.int cc), .val (.int (4 : Int32)), .val (.ref b4), .val (.ref b23), .val (.ref b45), .unset, .unset] [])) _
      refine XS.aload X207.here hx rfl (hb hby at_181) rfl rfl ?_
      exact k
    obtain ⟨cq210, kq210, q210a, q210b, q210c⟩ := isOf hZ rfl (((((A45.keep K48q).keep K186q).keep K193q).keep K200q).keep K207q)
    obtain ⟨_, _, ⟨T210, L210, k210, n210⟩, -, X210, ⟨Lc210, hQ210, l210, y210, z210⟩, st210⟩ := X207.virtualBack hx (y := (⟨"com/example/tillerfront/tillerfront/engine/Nearest", "indices", "()[I"⟩ : MethodName)) (z := (⟨"com/example/tillerfront/tillerfront/engine/Nearest", "indices", "()[I"⟩ : MethodName)) hown (mvT hZ (hw _ (List.mem_of_getElem? (i := 15) rfl))) (mvT hZ (hw _ (List.mem_of_getElem? (i := 16) rfl))) (notFace_of_selects (args := #[]) (mvT hZ (hw _ (List.mem_of_getElem? (i := 18) rfl)))) (mvT hZ (hw _ (List.mem_of_getElem? (i := 18) rfl))) (mvT hZ (hw _ (List.mem_of_getElem? (i := 17) rfl))) (by decide) (backOf (W := 0) (rmIn l Z a0 hw [] b45 ia48 ki48 cc sq207 cN (runP (0 : Int32) cN [p0, p1, p2, p3] [e0, e1, e2, e3] 4).2.2 (runP (0 : Int32) cN [p0, p1, p2, p3] [e0, e1, e2, e3] 4).1 T207.heap n0 (Nat.le_trans (Nat.le_trans (Nat.le_trans (Nat.le_trans (Nat.le_trans (Nat.le_trans (Nat.le_trans (Nat.le_trans (Nat.le_trans (Nat.le_trans (Nat.le_trans (Nat.le_trans (Nat.le_trans (Nat.le_trans (Nat.le_trans (Nat.le_trans Z0 E4.1) (Keep.of_wr W8).1) (Keep.of_wr W12).1) (Keep.of_wr W16).1) (Keep.of_wr W20).1) E23.1) (Keep.of_wr W28).1) (Keep.of_wr W33).1) (Keep.of_wr W38).1) (Keep.of_wr W43).1) E45.1) K48q.1) K186q.1) K193q.1) K200q.1) K207q.1) FI207 FS207 PI207 ((((XI48.keep K186q).keep K193q).keep K200q).keep K207q) hcc ⟨hz207, (hinv 4).2.2.2⟩ (hinv 4).1) hZ (hw _ (List.mem_of_getElem? (i := 19) rfl)) (hw _ (List.mem_of_getElem? (i := 4) rfl)) (by decide) (by decide)) q210a q210c (g := (mkF m 183 #[.val (.int p0), .val (.int p1), .val (.int p2), .val (.int p3), .val (.int p4), .val (.int p5), .val (.int cc), .val (.int (4 : Int32)), .val (.ref b4), .val (.ref b23), .val (.ref b45), .unset, .unset] [(.ref b45)])) rfl (by rw [hml]; rfl) (Steps.refl _) (argsL := []) (rest := []) (lenOf own_pd5 rfl) rfl (by show 2 * 0 + _ ≤ _; exact Nat.le_of_eq rfl) (hb hby at_183) (fun _ _ => ⟨rfl, rfl, (by decide : 5 + 1 ≤ _), (by decide : 21 + 5 ≤ _)⟩)
    dsimp only [Pt.U, Pt.locs, Pt.cells, Pt.slots] at X210 l210 y210 z210 st210 hQ210
    subst l210 y210 z210
    obtain ⟨gb210, kg210, rfl, N210q, K210q, VG210⟩ := hQ210
    have N210 := Fr.app N207 N210q
    have KK210 : Keep h0 T210.heap [] := Keep.trans KK207 K210q all0
    have a211 : ∀ t, Steps p.tables e below (T210.setTop (mkF m 186 #[.val (.int p0), .val (.int p1), .val (.int p2), .val (.int p3), .val (.int p4), .val (.int p5), .val (.int cc), .val (.int (4 : Int32)), .val (.ref b4), .val (.ref b23), .val (.ref b45), .unset, .unset] [(.ref gb210)])) t → Steps p.tables e below (s₁.setTop (entryFrame m #[(.int p0), (.int p1), (.int p2), (.int p3), (.int p4), (.int p5)] maxLocals)) t := fun t k => a209 t (st210.trans k)
    have a212 : ∀ t, Steps p.tables e below (T210.setTop (mkF m 188 #[.val (.int p0), .val (.int p1), .val (.int p2), .val (.int p3), .val (.int p4), .val (.int p5), .val (.int cc), .val (.int (4 : Int32)), .val (.ref b4), .val (.ref b23), .val (.ref b45), .val (.ref gb210), .unset] [])) t → Steps p.tables e below (s₁.setTop (entryFrame m #[(.int p0), (.int p1), (.int p2), (.int p3), (.int p4), (.int p5)] maxLocals)) t := by
      intro t k
      refine a211 t ?_
      show Steps p.tables e below (T210.setTop (mkF m 186 #[.val (.int p0), .val (.int p1), .val (.int p2), .val (.int p3), .val (.int p4), .val (.int p5), .val (.int cc), .val (.int (4 : Int32)), .val (.ref b4), .val (.ref b23), .val (.ref b45), .unset, .unset] [(.ref gb210)])) _
      refine XS.astore X210.here hx rfl (hb hby at_186) rfl rfl (l' := #[.val (.int p0), .val (.int p1), .val (.int p2), .val (.int p3), .val (.int p4), .val (.int p5), .val (.int cc), .val (.int (4 : Int32)), .val (.ref b4), .val (.ref b23), .val (.ref b45), .val (.ref gb210), .unset]) rfl ?_
      exact k
    have hnear := nearL p0 p1 p2 p3 (0 : Int32) (n := 4) hcc.2 (by decide) he0 he1 he2 he3
    have a213 : ∀ t, Steps p.tables e below (T210.setTop (mkF m 192 #[.val (.int p0), .val (.int p1), .val (.int p2), .val (.int p3), .val (.int p4), .val (.int p5), .val (.int cc), .val (.int (4 : Int32)), .val (.ref b4), .val (.ref b23), .val (.ref b45), .val (.ref gb210), .unset] [(.int (4 : Int32)), (.int cc)])) t → Steps p.tables e below (s₁.setTop (entryFrame m #[(.int p0), (.int p1), (.int p2), (.int p3), (.int p4), (.int p5)] maxLocals)) t := by
      intro t k
      refine a212 t ?_
      show Steps p.tables e below (T210.setTop (mkF m 188 #[.val (.int p0), .val (.int p1), .val (.int p2), .val (.int p3), .val (.int p4), .val (.int p5), .val (.int cc), .val (.int (4 : Int32)), .val (.ref b4), .val (.ref b23), .val (.ref b45), .val (.ref gb210), .unset] [])) _
      refine XS.iload X210.here hx rfl (hb hby at_188) rfl ?_
      refine XS.iload X210.here hx rfl (hb hby at_190) rfl ?_
      exact k
    obtain ⟨_, _, ⟨T214, L214, k214, n214⟩, -, X214, ⟨Lc214, hQ214, l214, y214, z214⟩, st214⟩ := Jvm.LawKit.callS X210 hx (y := (⟨"java/lang/Math", "min", "(II)I"⟩ : MethodName)) hown (mvT hZ (hw _ (List.mem_of_getElem? (i := 34) rfl))) (mvT hZ (hw _ (List.mem_of_getElem? (i := 27) rfl))) (mvT hZ (hw _ (List.mem_of_getElem? (i := 28) rfl))) (mvT hZ (hw _ (List.mem_of_getElem? (i := 29) rfl))) (by decide) (backOf (W := 0) (rmMin l Z a0 hw [] cc (4 : Int32) T210.heap n0 (Nat.le_trans (Nat.le_trans (Nat.le_trans (Nat.le_trans (Nat.le_trans (Nat.le_trans (Nat.le_trans (Nat.le_trans (Nat.le_trans (Nat.le_trans (Nat.le_trans (Nat.le_trans (Nat.le_trans (Nat.le_trans (Nat.le_trans (Nat.le_trans (Nat.le_trans Z0 E4.1) (Keep.of_wr W8).1) (Keep.of_wr W12).1) (Keep.of_wr W16).1) (Keep.of_wr W20).1) E23.1) (Keep.of_wr W28).1) (Keep.of_wr W33).1) (Keep.of_wr W38).1) (Keep.of_wr W43).1) E45.1) K48q.1) K186q.1) K193q.1) K200q.1) K207q.1) K210q.1) ) hZ (hw _ (List.mem_of_getElem? (i := 29) rfl)) (hw _ (List.mem_of_getElem? (i := 28) rfl)) (by decide) (by decide)) (g := (mkF m 192 #[.val (.int p0), .val (.int p1), .val (.int p2), .val (.int p3), .val (.int p4), .val (.int p5), .val (.int cc), .val (.int (4 : Int32)), .val (.ref b4), .val (.ref b23), .val (.ref b45), .val (.ref gb210), .unset] [(.int (4 : Int32)), (.int cc)])) rfl (by rw [hml]; rfl) (argsL := [(.int cc), (.int (4 : Int32))]) (rest := []) (lenOf own_pd0 rfl) rfl (by show 2 * 0 + _ ≤ _; exact Nat.le_of_eq rfl) (hb hby at_192) (fun _ _ => ⟨rfl, rfl, (by decide : 6 + 0 ≤ _), (by decide : 26 + 0 ≤ _)⟩)
    dsimp only [Pt.U, Pt.locs, Pt.cells, Pt.slots] at X214 l214 y214 z214 st214 hQ214
    subst l214 y214 z214
    obtain ⟨rfl, N214q, e214q⟩ := hQ214
    have N214 := Fr.app N210 N214q
    have a215 : ∀ t, Steps p.tables e below (T214.setTop (mkF m 195 #[.val (.int p0), .val (.int p1), .val (.int p2), .val (.int p3), .val (.int p4), .val (.int p5), .val (.int cc), .val (.int (4 : Int32)), .val (.ref b4), .val (.ref b23), .val (.ref b45), .val (.ref gb210), .unset] [(.int (if (4 : Int32) < cc then (4 : Int32) else cc))])) t → Steps p.tables e below (s₁.setTop (entryFrame m #[(.int p0), (.int p1), (.int p2), (.int p3), (.int p4), (.int p5)] maxLocals)) t := fun t k => a213 t (st214 t k)
    have a216 : ∀ t, Steps p.tables e below (T214.setTop (mkF m 199 #[.val (.int p0), .val (.int p1), .val (.int p2), .val (.int p3), .val (.int p4), .val (.int p5), .val (.int cc), .val (.int (4 : Int32)), .val (.ref b4), .val (.ref b23), .val (.ref b45), .val (.ref gb210), .val (.int (if (4 : Int32) < cc then (4 : Int32) else cc))] [(.ref gb210)])) t → Steps p.tables e below (s₁.setTop (entryFrame m #[(.int p0), (.int p1), (.int p2), (.int p3), (.int p4), (.int p5)] maxLocals)) t := by
      intro t k
      refine a215 t ?_
      show Steps p.tables e below (T214.setTop (mkF m 195 #[.val (.int p0), .val (.int p1), .val (.int p2), .val (.int p3), .val (.int p4), .val (.int p5), .val (.int cc), .val (.int (4 : Int32)), .val (.ref b4), .val (.ref b23), .val (.ref b45), .val (.ref gb210), .unset] [(.int (if (4 : Int32) < cc then (4 : Int32) else cc))])) _
      refine XS.istore X214.here hx rfl (hb hby at_195) rfl (l' := #[.val (.int p0), .val (.int p1), .val (.int p2), .val (.int p3), .val (.int p4), .val (.int p5), .val (.int cc), .val (.int (4 : Int32)), .val (.ref b4), .val (.ref b23), .val (.ref b45), .val (.ref gb210), .val (.int (if (4 : Int32) < cc then (4 : Int32) else cc))]) rfl ?_
      refine XS.aload X214.here hx rfl (hb hby at_197) rfl rfl ?_
      exact k
    obtain ⟨cl217, Ar217, qc217, Sz217, Nn217, Hs217, Gs217⟩ := id VG210
    have a218 : ∀ t, Steps p.tables e below (T214.setTop (mkF m 218 #[.val (.int p0), .val (.int p1), .val (.int p2), .val (.int p3), .val (.int p4), .val (.int p5), .val (.int cc), .val (.int (4 : Int32)), .val (.ref b4), .val (.ref b23), .val (.ref b45), .val (.ref gb210), .val (.int (if (4 : Int32) < cc then (4 : Int32) else cc))] [(.int (0 : Int32)), (.int cc), (.int (4 : Int32)), (.ref b23), (.ref b4), (.ref gb210)])) t → Steps p.tables e below (s₁.setTop (entryFrame m #[(.int p0), (.int p1), (.int p2), (.int p3), (.int p4), (.int p5)] maxLocals)) t := by
      intro t k
      refine a216 t ?_
      show Steps p.tables e below (T214.setTop (mkF m 199 #[.val (.int p0), .val (.int p1), .val (.int p2), .val (.int p3), .val (.int p4), .val (.int p5), .val (.int cc), .val (.int (4 : Int32)), .val (.ref b4), .val (.ref b23), .val (.ref b45), .val (.ref gb210), .val (.int (if (4 : Int32) < cc then (4 : Int32) else cc))] [(.ref gb210)])) _
      refine X214.arraylength hx (by rw [e214q]; exact Ar217.1) (State.isArrayOf_alike hZ.alike Ar217.2.1) (g := (mkF m 199 #[.val (.int p0), .val (.int p1), .val (.int p2), .val (.int p3), .val (.int p4), .val (.int p5), .val (.int cc), .val (.int (4 : Int32)), .val (.ref b4), .val (.ref b23), .val (.ref b45), .val (.ref gb210), .val (.int (if (4 : Int32) < cc then (4 : Int32) else cc))] [(.ref gb210)])) rfl rfl (hb hby at_199) _ ?_
      rw [len_of Sz217 Nn217]
      refine XS.iload X214.here hx rfl (hb hby at_200) rfl ?_
      refine XS.icmpYes X214.here hx rfl (pc0 := 202) (pc' := 207) rfl (hb hby at_202) rfl (teq (own_len hcc.1 (show (4 : Int32).toInt = ((4 : Nat) : Int) by decide) (by rw [← hnear.1]; exact hz207))).1 (by decide) (by decide) ?_
      refine XS.aload X214.here hx rfl (hb hby at_207) rfl rfl ?_
      refine XS.aload X214.here hx rfl (hb hby at_209) rfl rfl ?_
      refine XS.aload X214.here hx rfl (hb hby at_211) rfl rfl ?_
      refine XS.iload X214.here hx rfl (hb hby at_213) rfl ?_
      refine XS.iload X214.here hx rfl (hb hby at_215) rfl ?_
      refine XS.iconst X214.here hx rfl (hb hby at_217) ?_
      exact k
    obtain ⟨_, _, ⟨T219, L219, k219, n219⟩, -, X219, ⟨Lc219, hQ219, l219, y219, z219⟩, st219⟩ := Jvm.LawKit.callS X214 hx (y := (⟨"com/example/tillerfront/tillerfront/engine/NearestOfferPinLaw", "ok", "([I[I[DIII)Z"⟩ : MethodName)) hown (mvT hZ (hw _ (List.mem_of_getElem? (i := 35) rfl))) (mvT hZ (hw _ (List.mem_of_getElem? (i := 36) rfl))) (mvT hZ (hw _ (List.mem_of_getElem? (i := 37) rfl))) (mvT hZ (hw _ (List.mem_of_getElem? (i := 38) rfl))) (by decide) (backOf (W := 0) (rmOk l Z a0 hw [] gb210 b4 b23 (4 : Int32) cc (0 : Int32) kg210 kk4 kk23 sq207 ((runP (0 : Int32) cN [p0, p1, p2, p3] [e0, e1, e2, e3] 4).1.take (runP (0 : Int32) cN [p0, p1, p2, p3] [e0, e1, e2, e3] 4).2.2) [p0, p1, p2, p3] [e0, e1, e2, e3] (runP (0 : Int32) cN [p0, p1, p2, p3] [e0, e1, e2, e3] 4).2.2 4 cN 0 fv T210.heap n0 (Nat.le_trans (Nat.le_trans (Nat.le_trans (Nat.le_trans (Nat.le_trans (Nat.le_trans (Nat.le_trans (Nat.le_trans (Nat.le_trans (Nat.le_trans (Nat.le_trans (Nat.le_trans (Nat.le_trans (Nat.le_trans (Nat.le_trans (Nat.le_trans (Nat.le_trans Z0 E4.1) (Keep.of_wr W8).1) (Keep.of_wr W12).1) (Keep.of_wr W16).1) (Keep.of_wr W20).1) E23.1) (Keep.of_wr W28).1) (Keep.of_wr W33).1) (Keep.of_wr W38).1) (Keep.of_wr W43).1) E45.1) K48q.1) K186q.1) K193q.1) K200q.1) K207q.1) K210q.1) hf VG210 ((((((((Arv.other (Arv.other (Arv.other (Arv.other (V20.ext E23) W28 (Nat.ne_of_lt (Nat.lt_of_lt_of_le V20.lt (Nat.le_of_eq g23.symm)))) W33 (Nat.ne_of_lt (Nat.lt_of_lt_of_le V20.lt (Nat.le_of_eq g23.symm)))) W38 (Nat.ne_of_lt (Nat.lt_of_lt_of_le V20.lt (Nat.le_of_eq g23.symm)))) W43 (Nat.ne_of_lt (Nat.lt_of_lt_of_le V20.lt (Nat.le_of_eq g23.symm)))).ext E45).keep K48q (ninS (Nat.ne_of_lt (Nat.lt_of_lt_of_le (Arv.other (Arv.other (Arv.other (Arv.other (V20.ext E23) W28 (Nat.ne_of_lt (Nat.lt_of_lt_of_le V20.lt (Nat.le_of_eq g23.symm)))) W33 (Nat.ne_of_lt (Nat.lt_of_lt_of_le V20.lt (Nat.le_of_eq g23.symm)))) W38 (Nat.ne_of_lt (Nat.lt_of_lt_of_le V20.lt (Nat.le_of_eq g23.symm)))) W43 (Nat.ne_of_lt (Nat.lt_of_lt_of_le V20.lt (Nat.le_of_eq g23.symm)))).lt (Nat.le_of_eq g45.symm))) nin0)).keep K186q (ninS (Nat.ne_of_lt (Nat.lt_of_lt_of_le (Arv.other (Arv.other (Arv.other (Arv.other (V20.ext E23) W28 (Nat.ne_of_lt (Nat.lt_of_lt_of_le V20.lt (Nat.le_of_eq g23.symm)))) W33 (Nat.ne_of_lt (Nat.lt_of_lt_of_le V20.lt (Nat.le_of_eq g23.symm)))) W38 (Nat.ne_of_lt (Nat.lt_of_lt_of_le V20.lt (Nat.le_of_eq g23.symm)))) W43 (Nat.ne_of_lt (Nat.lt_of_lt_of_le V20.lt (Nat.le_of_eq g23.symm)))).lt (Nat.le_of_eq g45.symm))) (ninS (Nat.ne_of_lt (Nat.lt_of_lt_of_le ((Arv.other (Arv.other (Arv.other (Arv.other (V20.ext E23) W28 (Nat.ne_of_lt (Nat.lt_of_lt_of_le V20.lt (Nat.le_of_eq g23.symm)))) W33 (Nat.ne_of_lt (Nat.lt_of_lt_of_le V20.lt (Nat.le_of_eq g23.symm)))) W38 (Nat.ne_of_lt (Nat.lt_of_lt_of_le V20.lt (Nat.le_of_eq g23.symm)))) W43 (Nat.ne_of_lt (Nat.lt_of_lt_of_le V20.lt (Nat.le_of_eq g23.symm)))).ext E45).lt SI48)) (ninS (Nat.ne_of_lt (Nat.lt_of_lt_of_le ((Arv.other (Arv.other (Arv.other (Arv.other (V20.ext E23) W28 (Nat.ne_of_lt (Nat.lt_of_lt_of_le V20.lt (Nat.le_of_eq g23.symm)))) W33 (Nat.ne_of_lt (Nat.lt_of_lt_of_le V20.lt (Nat.le_of_eq g23.symm)))) W38 (Nat.ne_of_lt (Nat.lt_of_lt_of_le V20.lt (Nat.le_of_eq g23.symm)))) W43 (Nat.ne_of_lt (Nat.lt_of_lt_of_le V20.lt (Nat.le_of_eq g23.symm)))).ext E45).lt SD48)) nin0)))).keep K193q (ninS (Nat.ne_of_lt (Nat.lt_of_lt_of_le (Arv.other (Arv.other (Arv.other (Arv.other (V20.ext E23) W28 (Nat.ne_of_lt (Nat.lt_of_lt_of_le V20.lt (Nat.le_of_eq g23.symm)))) W33 (Nat.ne_of_lt (Nat.lt_of_lt_of_le V20.lt (Nat.le_of_eq g23.symm)))) W38 (Nat.ne_of_lt (Nat.lt_of_lt_of_le V20.lt (Nat.le_of_eq g23.symm)))) W43 (Nat.ne_of_lt (Nat.lt_of_lt_of_le V20.lt (Nat.le_of_eq g23.symm)))).lt (Nat.le_of_eq g45.symm))) (ninS (Nat.ne_of_lt (Nat.lt_of_lt_of_le ((Arv.other (Arv.other (Arv.other (Arv.other (V20.ext E23) W28 (Nat.ne_of_lt (Nat.lt_of_lt_of_le V20.lt (Nat.le_of_eq g23.symm)))) W33 (Nat.ne_of_lt (Nat.lt_of_lt_of_le V20.lt (Nat.le_of_eq g23.symm)))) W38 (Nat.ne_of_lt (Nat.lt_of_lt_of_le V20.lt (Nat.le_of_eq g23.symm)))) W43 (Nat.ne_of_lt (Nat.lt_of_lt_of_le V20.lt (Nat.le_of_eq g23.symm)))).ext E45).lt SI48)) (ninS (Nat.ne_of_lt (Nat.lt_of_lt_of_le ((Arv.other (Arv.other (Arv.other (Arv.other (V20.ext E23) W28 (Nat.ne_of_lt (Nat.lt_of_lt_of_le V20.lt (Nat.le_of_eq g23.symm)))) W33 (Nat.ne_of_lt (Nat.lt_of_lt_of_le V20.lt (Nat.le_of_eq g23.symm)))) W38 (Nat.ne_of_lt (Nat.lt_of_lt_of_le V20.lt (Nat.le_of_eq g23.symm)))) W43 (Nat.ne_of_lt (Nat.lt_of_lt_of_le V20.lt (Nat.le_of_eq g23.symm)))).ext E45).lt SD48)) nin0)))).keep K200q (ninS (Nat.ne_of_lt (Nat.lt_of_lt_of_le (Arv.other (Arv.other (Arv.other (Arv.other (V20.ext E23) W28 (Nat.ne_of_lt (Nat.lt_of_lt_of_le V20.lt (Nat.le_of_eq g23.symm)))) W33 (Nat.ne_of_lt (Nat.lt_of_lt_of_le V20.lt (Nat.le_of_eq g23.symm)))) W38 (Nat.ne_of_lt (Nat.lt_of_lt_of_le V20.lt (Nat.le_of_eq g23.symm)))) W43 (Nat.ne_of_lt (Nat.lt_of_lt_of_le V20.lt (Nat.le_of_eq g23.symm)))).lt (Nat.le_of_eq g45.symm))) (ninS (Nat.ne_of_lt (Nat.lt_of_lt_of_le ((Arv.other (Arv.other (Arv.other (Arv.other (V20.ext E23) W28 (Nat.ne_of_lt (Nat.lt_of_lt_of_le V20.lt (Nat.le_of_eq g23.symm)))) W33 (Nat.ne_of_lt (Nat.lt_of_lt_of_le V20.lt (Nat.le_of_eq g23.symm)))) W38 (Nat.ne_of_lt (Nat.lt_of_lt_of_le V20.lt (Nat.le_of_eq g23.symm)))) W43 (Nat.ne_of_lt (Nat.lt_of_lt_of_le V20.lt (Nat.le_of_eq g23.symm)))).ext E45).lt SI48)) (ninS (Nat.ne_of_lt (Nat.lt_of_lt_of_le ((Arv.other (Arv.other (Arv.other (Arv.other (V20.ext E23) W28 (Nat.ne_of_lt (Nat.lt_of_lt_of_le V20.lt (Nat.le_of_eq g23.symm)))) W33 (Nat.ne_of_lt (Nat.lt_of_lt_of_le V20.lt (Nat.le_of_eq g23.symm)))) W38 (Nat.ne_of_lt (Nat.lt_of_lt_of_le V20.lt (Nat.le_of_eq g23.symm)))) W43 (Nat.ne_of_lt (Nat.lt_of_lt_of_le V20.lt (Nat.le_of_eq g23.symm)))).ext E45).lt SD48)) nin0)))).keep K207q (ninS (Nat.ne_of_lt (Nat.lt_of_lt_of_le (Arv.other (Arv.other (Arv.other (Arv.other (V20.ext E23) W28 (Nat.ne_of_lt (Nat.lt_of_lt_of_le V20.lt (Nat.le_of_eq g23.symm)))) W33 (Nat.ne_of_lt (Nat.lt_of_lt_of_le V20.lt (Nat.le_of_eq g23.symm)))) W38 (Nat.ne_of_lt (Nat.lt_of_lt_of_le V20.lt (Nat.le_of_eq g23.symm)))) W43 (Nat.ne_of_lt (Nat.lt_of_lt_of_le V20.lt (Nat.le_of_eq g23.symm)))).lt (Nat.le_of_eq g45.symm))) (ninS (Nat.ne_of_lt (Nat.lt_of_lt_of_le ((Arv.other (Arv.other (Arv.other (Arv.other (V20.ext E23) W28 (Nat.ne_of_lt (Nat.lt_of_lt_of_le V20.lt (Nat.le_of_eq g23.symm)))) W33 (Nat.ne_of_lt (Nat.lt_of_lt_of_le V20.lt (Nat.le_of_eq g23.symm)))) W38 (Nat.ne_of_lt (Nat.lt_of_lt_of_le V20.lt (Nat.le_of_eq g23.symm)))) W43 (Nat.ne_of_lt (Nat.lt_of_lt_of_le V20.lt (Nat.le_of_eq g23.symm)))).ext E45).lt SI48)) (ninS (Nat.ne_of_lt (Nat.lt_of_lt_of_le ((Arv.other (Arv.other (Arv.other (Arv.other (V20.ext E23) W28 (Nat.ne_of_lt (Nat.lt_of_lt_of_le V20.lt (Nat.le_of_eq g23.symm)))) W33 (Nat.ne_of_lt (Nat.lt_of_lt_of_le V20.lt (Nat.le_of_eq g23.symm)))) W38 (Nat.ne_of_lt (Nat.lt_of_lt_of_le V20.lt (Nat.le_of_eq g23.symm)))) W43 (Nat.ne_of_lt (Nat.lt_of_lt_of_le V20.lt (Nat.le_of_eq g23.symm)))).ext E45).lt SD48)) nin0)))).keep K210q nin0) (((((((V43.ext E45).keep K48q (ninS (Nat.ne_of_lt (Nat.lt_of_lt_of_le V43.lt (Nat.le_of_eq g45.symm))) nin0)).keep K186q (ninS (Nat.ne_of_lt (Nat.lt_of_lt_of_le V43.lt (Nat.le_of_eq g45.symm))) (ninS (Nat.ne_of_lt (Nat.lt_of_lt_of_le (V43.ext E45).lt SI48)) (ninS (Nat.ne_of_lt (Nat.lt_of_lt_of_le (V43.ext E45).lt SD48)) nin0)))).keep K193q (ninS (Nat.ne_of_lt (Nat.lt_of_lt_of_le V43.lt (Nat.le_of_eq g45.symm))) (ninS (Nat.ne_of_lt (Nat.lt_of_lt_of_le (V43.ext E45).lt SI48)) (ninS (Nat.ne_of_lt (Nat.lt_of_lt_of_le (V43.ext E45).lt SD48)) nin0)))).keep K200q (ninS (Nat.ne_of_lt (Nat.lt_of_lt_of_le V43.lt (Nat.le_of_eq g45.symm))) (ninS (Nat.ne_of_lt (Nat.lt_of_lt_of_le (V43.ext E45).lt SI48)) (ninS (Nat.ne_of_lt (Nat.lt_of_lt_of_le (V43.ext E45).lt SD48)) nin0)))).keep K207q (ninS (Nat.ne_of_lt (Nat.lt_of_lt_of_le V43.lt (Nat.le_of_eq g45.symm))) (ninS (Nat.ne_of_lt (Nat.lt_of_lt_of_le (V43.ext E45).lt SI48)) (ninS (Nat.ne_of_lt (Nat.lt_of_lt_of_le (V43.ext E45).lt SD48)) nin0)))).keep K210q nin0) (ds4 he0 he1 he2 he3) hz207 (by decide) hcc.1 (by decide) (by decide) (own_fin hnear (by decide))) hZ (hw _ (List.mem_of_getElem? (i := 38) rfl)) (hw _ (List.mem_of_getElem? (i := 37) rfl)) (by decide) (by decide)) (g := (mkF m 218 #[.val (.int p0), .val (.int p1), .val (.int p2), .val (.int p3), .val (.int p4), .val (.int p5), .val (.int cc), .val (.int (4 : Int32)), .val (.ref b4), .val (.ref b23), .val (.ref b45), .val (.ref gb210), .val (.int (if (4 : Int32) < cc then (4 : Int32) else cc))] [(.int (0 : Int32)), (.int cc), (.int (4 : Int32)), (.ref b23), (.ref b4), (.ref gb210)])) rfl (by rw [hml]; rfl) (argsL := [(.ref gb210), (.ref b4), (.ref b23), (.int (4 : Int32)), (.int cc), (.int (0 : Int32))]) (rest := []) (lenOf own_pd6 rfl) rfl (by show 2 * 0 + _ ≤ _; exact Nat.le_of_eq rfl) (hb hby at_218) (fun _ _ => ⟨rfl, e214q, (by decide : 6 + 0 ≤ _), (by decide : 26 + 0 ≤ _)⟩)
    dsimp only [Pt.U, Pt.locs, Pt.cells, Pt.slots] at X219 l219 y219 z219 st219 hQ219
    subst l219 y219 z219
    obtain ⟨rfl, N219q, e219q⟩ := hQ219
    have N219 := Fr.app N214 N219q
    have a220 : ∀ t, Steps p.tables e below (T219.setTop (mkF m 221 #[.val (.int p0), .val (.int p1), .val (.int p2), .val (.int p3), .val (.int p4), .val (.int p5), .val (.int cc), .val (.int (4 : Int32)), .val (.ref b4), .val (.ref b23), .val (.ref b45), .val (.ref gb210), .val (.int (if (4 : Int32) < cc then (4 : Int32) else cc))] [(.int (1 : Int32))])) t → Steps p.tables e below (s₁.setTop (entryFrame m #[(.int p0), (.int p1), (.int p2), (.int p3), (.int p4), (.int p5)] maxLocals)) t := fun t k => a218 t (st219 t k)
    have a221 : ∀ t, Steps p.tables e below (T219.setTop (mkF m 235 #[.val (.int p0), .val (.int p1), .val (.int p2), .val (.int p3), .val (.int p4), .val (.int p5), .val (.int cc), .val (.int (4 : Int32)), .val (.ref b4), .val (.ref b23), .val (.ref b45), .val (.ref gb210), .val (.int (if (4 : Int32) < cc then (4 : Int32) else cc))] [(.int (1 : Int32)), (.int cc), (.int (4 : Int32)), (.ref b23), (.ref b4), (.ref gb210)])) t → Steps p.tables e below (s₁.setTop (entryFrame m #[(.int p0), (.int p1), (.int p2), (.int p3), (.int p4), (.int p5)] maxLocals)) t := by
      intro t k
      refine a220 t ?_
      show Steps p.tables e below (T219.setTop (mkF m 221 #[.val (.int p0), .val (.int p1), .val (.int p2), .val (.int p3), .val (.int p4), .val (.int p5), .val (.int cc), .val (.int (4 : Int32)), .val (.ref b4), .val (.ref b23), .val (.ref b45), .val (.ref gb210), .val (.int (if (4 : Int32) < cc then (4 : Int32) else cc))] [(.int (1 : Int32))])) _
      refine XS.ifNo X219.here hx rfl (hb hby at_221) rfl ((if0 _ _).trans (feq (by decide)).1) ?_
      refine XS.aload X219.here hx rfl (hb hby at_224) rfl rfl ?_
      refine XS.aload X219.here hx rfl (hb hby at_226) rfl rfl ?_
      refine XS.aload X219.here hx rfl (hb hby at_228) rfl rfl ?_
      refine XS.iload X219.here hx rfl (hb hby at_230) rfl ?_
      refine XS.iload X219.here hx rfl (hb hby at_232) rfl ?_
      refine XS.iconst X219.here hx rfl (hb hby at_234) ?_
      exact k
    obtain ⟨_, _, ⟨T222, L222, k222, n222⟩, -, X222, ⟨Lc222, hQ222, l222, y222, z222⟩, st222⟩ := Jvm.LawKit.callS X219 hx (y := (⟨"com/example/tillerfront/tillerfront/engine/NearestOfferPinLaw", "ok", "([I[I[DIII)Z"⟩ : MethodName)) hown (mvT hZ (hw _ (List.mem_of_getElem? (i := 35) rfl))) (mvT hZ (hw _ (List.mem_of_getElem? (i := 36) rfl))) (mvT hZ (hw _ (List.mem_of_getElem? (i := 37) rfl))) (mvT hZ (hw _ (List.mem_of_getElem? (i := 38) rfl))) (by decide) (backOf (W := 0) (rmOk l Z a0 hw [] gb210 b4 b23 (4 : Int32) cc (1 : Int32) kg210 kk4 kk23 sq207 ((runP (0 : Int32) cN [p0, p1, p2, p3] [e0, e1, e2, e3] 4).1.take (runP (0 : Int32) cN [p0, p1, p2, p3] [e0, e1, e2, e3] 4).2.2) [p0, p1, p2, p3] [e0, e1, e2, e3] (runP (0 : Int32) cN [p0, p1, p2, p3] [e0, e1, e2, e3] 4).2.2 4 cN 1 fv T210.heap n0 (Nat.le_trans (Nat.le_trans (Nat.le_trans (Nat.le_trans (Nat.le_trans (Nat.le_trans (Nat.le_trans (Nat.le_trans (Nat.le_trans (Nat.le_trans (Nat.le_trans (Nat.le_trans (Nat.le_trans (Nat.le_trans (Nat.le_trans (Nat.le_trans (Nat.le_trans Z0 E4.1) (Keep.of_wr W8).1) (Keep.of_wr W12).1) (Keep.of_wr W16).1) (Keep.of_wr W20).1) E23.1) (Keep.of_wr W28).1) (Keep.of_wr W33).1) (Keep.of_wr W38).1) (Keep.of_wr W43).1) E45.1) K48q.1) K186q.1) K193q.1) K200q.1) K207q.1) K210q.1) hf VG210 ((((((((Arv.other (Arv.other (Arv.other (Arv.other (V20.ext E23) W28 (Nat.ne_of_lt (Nat.lt_of_lt_of_le V20.lt (Nat.le_of_eq g23.symm)))) W33 (Nat.ne_of_lt (Nat.lt_of_lt_of_le V20.lt (Nat.le_of_eq g23.symm)))) W38 (Nat.ne_of_lt (Nat.lt_of_lt_of_le V20.lt (Nat.le_of_eq g23.symm)))) W43 (Nat.ne_of_lt (Nat.lt_of_lt_of_le V20.lt (Nat.le_of_eq g23.symm)))).ext E45).keep K48q (ninS (Nat.ne_of_lt (Nat.lt_of_lt_of_le (Arv.other (Arv.other (Arv.other (Arv.other (V20.ext E23) W28 (Nat.ne_of_lt (Nat.lt_of_lt_of_le V20.lt (Nat.le_of_eq g23.symm)))) W33 (Nat.ne_of_lt (Nat.lt_of_lt_of_le V20.lt (Nat.le_of_eq g23.symm)))) W38 (Nat.ne_of_lt (Nat.lt_of_lt_of_le V20.lt (Nat.le_of_eq g23.symm)))) W43 (Nat.ne_of_lt (Nat.lt_of_lt_of_le V20.lt (Nat.le_of_eq g23.symm)))).lt (Nat.le_of_eq g45.symm))) nin0)).keep K186q (ninS (Nat.ne_of_lt (Nat.lt_of_lt_of_le (Arv.other (Arv.other (Arv.other (Arv.other (V20.ext E23) W28 (Nat.ne_of_lt (Nat.lt_of_lt_of_le V20.lt (Nat.le_of_eq g23.symm)))) W33 (Nat.ne_of_lt (Nat.lt_of_lt_of_le V20.lt (Nat.le_of_eq g23.symm)))) W38 (Nat.ne_of_lt (Nat.lt_of_lt_of_le V20.lt (Nat.le_of_eq g23.symm)))) W43 (Nat.ne_of_lt (Nat.lt_of_lt_of_le V20.lt (Nat.le_of_eq g23.symm)))).lt (Nat.le_of_eq g45.symm))) (ninS (Nat.ne_of_lt (Nat.lt_of_lt_of_le ((Arv.other (Arv.other (Arv.other (Arv.other (V20.ext E23) W28 (Nat.ne_of_lt (Nat.lt_of_lt_of_le V20.lt (Nat.le_of_eq g23.symm)))) W33 (Nat.ne_of_lt (Nat.lt_of_lt_of_le V20.lt (Nat.le_of_eq g23.symm)))) W38 (Nat.ne_of_lt (Nat.lt_of_lt_of_le V20.lt (Nat.le_of_eq g23.symm)))) W43 (Nat.ne_of_lt (Nat.lt_of_lt_of_le V20.lt (Nat.le_of_eq g23.symm)))).ext E45).lt SI48)) (ninS (Nat.ne_of_lt (Nat.lt_of_lt_of_le ((Arv.other (Arv.other (Arv.other (Arv.other (V20.ext E23) W28 (Nat.ne_of_lt (Nat.lt_of_lt_of_le V20.lt (Nat.le_of_eq g23.symm)))) W33 (Nat.ne_of_lt (Nat.lt_of_lt_of_le V20.lt (Nat.le_of_eq g23.symm)))) W38 (Nat.ne_of_lt (Nat.lt_of_lt_of_le V20.lt (Nat.le_of_eq g23.symm)))) W43 (Nat.ne_of_lt (Nat.lt_of_lt_of_le V20.lt (Nat.le_of_eq g23.symm)))).ext E45).lt SD48)) nin0)))).keep K193q (ninS (Nat.ne_of_lt (Nat.lt_of_lt_of_le (Arv.other (Arv.other (Arv.other (Arv.other (V20.ext E23) W28 (Nat.ne_of_lt (Nat.lt_of_lt_of_le V20.lt (Nat.le_of_eq g23.symm)))) W33 (Nat.ne_of_lt (Nat.lt_of_lt_of_le V20.lt (Nat.le_of_eq g23.symm)))) W38 (Nat.ne_of_lt (Nat.lt_of_lt_of_le V20.lt (Nat.le_of_eq g23.symm)))) W43 (Nat.ne_of_lt (Nat.lt_of_lt_of_le V20.lt (Nat.le_of_eq g23.symm)))).lt (Nat.le_of_eq g45.symm))) (ninS (Nat.ne_of_lt (Nat.lt_of_lt_of_le ((Arv.other (Arv.other (Arv.other (Arv.other (V20.ext E23) W28 (Nat.ne_of_lt (Nat.lt_of_lt_of_le V20.lt (Nat.le_of_eq g23.symm)))) W33 (Nat.ne_of_lt (Nat.lt_of_lt_of_le V20.lt (Nat.le_of_eq g23.symm)))) W38 (Nat.ne_of_lt (Nat.lt_of_lt_of_le V20.lt (Nat.le_of_eq g23.symm)))) W43 (Nat.ne_of_lt (Nat.lt_of_lt_of_le V20.lt (Nat.le_of_eq g23.symm)))).ext E45).lt SI48)) (ninS (Nat.ne_of_lt (Nat.lt_of_lt_of_le ((Arv.other (Arv.other (Arv.other (Arv.other (V20.ext E23) W28 (Nat.ne_of_lt (Nat.lt_of_lt_of_le V20.lt (Nat.le_of_eq g23.symm)))) W33 (Nat.ne_of_lt (Nat.lt_of_lt_of_le V20.lt (Nat.le_of_eq g23.symm)))) W38 (Nat.ne_of_lt (Nat.lt_of_lt_of_le V20.lt (Nat.le_of_eq g23.symm)))) W43 (Nat.ne_of_lt (Nat.lt_of_lt_of_le V20.lt (Nat.le_of_eq g23.symm)))).ext E45).lt SD48)) nin0)))).keep K200q (ninS (Nat.ne_of_lt (Nat.lt_of_lt_of_le (Arv.other (Arv.other (Arv.other (Arv.other (V20.ext E23) W28 (Nat.ne_of_lt (Nat.lt_of_lt_of_le V20.lt (Nat.le_of_eq g23.symm)))) W33 (Nat.ne_of_lt (Nat.lt_of_lt_of_le V20.lt (Nat.le_of_eq g23.symm)))) W38 (Nat.ne_of_lt (Nat.lt_of_lt_of_le V20.lt (Nat.le_of_eq g23.symm)))) W43 (Nat.ne_of_lt (Nat.lt_of_lt_of_le V20.lt (Nat.le_of_eq g23.symm)))).lt (Nat.le_of_eq g45.symm))) (ninS (Nat.ne_of_lt (Nat.lt_of_lt_of_le ((Arv.other (Arv.other (Arv.other (Arv.other (V20.ext E23) W28 (Nat.ne_of_lt (Nat.lt_of_lt_of_le V20.lt (Nat.le_of_eq g23.symm)))) W33 (Nat.ne_of_lt (Nat.lt_of_lt_of_le V20.lt (Nat.le_of_eq g23.symm)))) W38 (Nat.ne_of_lt (Nat.lt_of_lt_of_le V20.lt (Nat.le_of_eq g23.symm)))) W43 (Nat.ne_of_lt (Nat.lt_of_lt_of_le V20.lt (Nat.le_of_eq g23.symm)))).ext E45).lt SI48)) (ninS (Nat.ne_of_lt (Nat.lt_of_lt_of_le ((Arv.other (Arv.other (Arv.other (Arv.other (V20.ext E23) W28 (Nat.ne_of_lt (Nat.lt_of_lt_of_le V20.lt (Nat.le_of_eq g23.symm)))) W33 (Nat.ne_of_lt (Nat.lt_of_lt_of_le V20.lt (Nat.le_of_eq g23.symm)))) W38 (Nat.ne_of_lt (Nat.lt_of_lt_of_le V20.lt (Nat.le_of_eq g23.symm)))) W43 (Nat.ne_of_lt (Nat.lt_of_lt_of_le V20.lt (Nat.le_of_eq g23.symm)))).ext E45).lt SD48)) nin0)))).keep K207q (ninS (Nat.ne_of_lt (Nat.lt_of_lt_of_le (Arv.other (Arv.other (Arv.other (Arv.other (V20.ext E23) W28 (Nat.ne_of_lt (Nat.lt_of_lt_of_le V20.lt (Nat.le_of_eq g23.symm)))) W33 (Nat.ne_of_lt (Nat.lt_of_lt_of_le V20.lt (Nat.le_of_eq g23.symm)))) W38 (Nat.ne_of_lt (Nat.lt_of_lt_of_le V20.lt (Nat.le_of_eq g23.symm)))) W43 (Nat.ne_of_lt (Nat.lt_of_lt_of_le V20.lt (Nat.le_of_eq g23.symm)))).lt (Nat.le_of_eq g45.symm))) (ninS (Nat.ne_of_lt (Nat.lt_of_lt_of_le ((Arv.other (Arv.other (Arv.other (Arv.other (V20.ext E23) W28 (Nat.ne_of_lt (Nat.lt_of_lt_of_le V20.lt (Nat.le_of_eq g23.symm)))) W33 (Nat.ne_of_lt (Nat.lt_of_lt_of_le V20.lt (Nat.le_of_eq g23.symm)))) W38 (Nat.ne_of_lt (Nat.lt_of_lt_of_le V20.lt (Nat.le_of_eq g23.symm)))) W43 (Nat.ne_of_lt (Nat.lt_of_lt_of_le V20.lt (Nat.le_of_eq g23.symm)))).ext E45).lt SI48)) (ninS (Nat.ne_of_lt (Nat.lt_of_lt_of_le ((Arv.other (Arv.other (Arv.other (Arv.other (V20.ext E23) W28 (Nat.ne_of_lt (Nat.lt_of_lt_of_le V20.lt (Nat.le_of_eq g23.symm)))) W33 (Nat.ne_of_lt (Nat.lt_of_lt_of_le V20.lt (Nat.le_of_eq g23.symm)))) W38 (Nat.ne_of_lt (Nat.lt_of_lt_of_le V20.lt (Nat.le_of_eq g23.symm)))) W43 (Nat.ne_of_lt (Nat.lt_of_lt_of_le V20.lt (Nat.le_of_eq g23.symm)))).ext E45).lt SD48)) nin0)))).keep K210q nin0) (((((((V43.ext E45).keep K48q (ninS (Nat.ne_of_lt (Nat.lt_of_lt_of_le V43.lt (Nat.le_of_eq g45.symm))) nin0)).keep K186q (ninS (Nat.ne_of_lt (Nat.lt_of_lt_of_le V43.lt (Nat.le_of_eq g45.symm))) (ninS (Nat.ne_of_lt (Nat.lt_of_lt_of_le (V43.ext E45).lt SI48)) (ninS (Nat.ne_of_lt (Nat.lt_of_lt_of_le (V43.ext E45).lt SD48)) nin0)))).keep K193q (ninS (Nat.ne_of_lt (Nat.lt_of_lt_of_le V43.lt (Nat.le_of_eq g45.symm))) (ninS (Nat.ne_of_lt (Nat.lt_of_lt_of_le (V43.ext E45).lt SI48)) (ninS (Nat.ne_of_lt (Nat.lt_of_lt_of_le (V43.ext E45).lt SD48)) nin0)))).keep K200q (ninS (Nat.ne_of_lt (Nat.lt_of_lt_of_le V43.lt (Nat.le_of_eq g45.symm))) (ninS (Nat.ne_of_lt (Nat.lt_of_lt_of_le (V43.ext E45).lt SI48)) (ninS (Nat.ne_of_lt (Nat.lt_of_lt_of_le (V43.ext E45).lt SD48)) nin0)))).keep K207q (ninS (Nat.ne_of_lt (Nat.lt_of_lt_of_le V43.lt (Nat.le_of_eq g45.symm))) (ninS (Nat.ne_of_lt (Nat.lt_of_lt_of_le (V43.ext E45).lt SI48)) (ninS (Nat.ne_of_lt (Nat.lt_of_lt_of_le (V43.ext E45).lt SD48)) nin0)))).keep K210q nin0) (ds4 he0 he1 he2 he3) hz207 (by decide) hcc.1 (by decide) (by decide) (own_fin hnear (by decide))) hZ (hw _ (List.mem_of_getElem? (i := 38) rfl)) (hw _ (List.mem_of_getElem? (i := 37) rfl)) (by decide) (by decide)) (g := (mkF m 235 #[.val (.int p0), .val (.int p1), .val (.int p2), .val (.int p3), .val (.int p4), .val (.int p5), .val (.int cc), .val (.int (4 : Int32)), .val (.ref b4), .val (.ref b23), .val (.ref b45), .val (.ref gb210), .val (.int (if (4 : Int32) < cc then (4 : Int32) else cc))] [(.int (1 : Int32)), (.int cc), (.int (4 : Int32)), (.ref b23), (.ref b4), (.ref gb210)])) rfl (by rw [hml]; rfl) (argsL := [(.ref gb210), (.ref b4), (.ref b23), (.int (4 : Int32)), (.int cc), (.int (1 : Int32))]) (rest := []) (lenOf own_pd6 rfl) rfl (by show 2 * 0 + _ ≤ _; exact Nat.le_of_eq rfl) (hb hby at_235) (fun _ _ => ⟨rfl, e219q, (by decide : 6 + 0 ≤ _), (by decide : 26 + 0 ≤ _)⟩)
    dsimp only [Pt.U, Pt.locs, Pt.cells, Pt.slots] at X222 l222 y222 z222 st222 hQ222
    subst l222 y222 z222
    obtain ⟨rfl, N222q, e222q⟩ := hQ222
    have N222 := Fr.app N219 N222q
    have a223 : ∀ t, Steps p.tables e below (T222.setTop (mkF m 238 #[.val (.int p0), .val (.int p1), .val (.int p2), .val (.int p3), .val (.int p4), .val (.int p5), .val (.int cc), .val (.int (4 : Int32)), .val (.ref b4), .val (.ref b23), .val (.ref b45), .val (.ref gb210), .val (.int (if (4 : Int32) < cc then (4 : Int32) else cc))] [(.int (1 : Int32))])) t → Steps p.tables e below (s₁.setTop (entryFrame m #[(.int p0), (.int p1), (.int p2), (.int p3), (.int p4), (.int p5)] maxLocals)) t := fun t k => a221 t (st222 t k)
    have a224 : ∀ t, Steps p.tables e below (T222.setTop (mkF m 252 #[.val (.int p0), .val (.int p1), .val (.int p2), .val (.int p3), .val (.int p4), .val (.int p5), .val (.int cc), .val (.int (4 : Int32)), .val (.ref b4), .val (.ref b23), .val (.ref b45), .val (.ref gb210), .val (.int (if (4 : Int32) < cc then (4 : Int32) else cc))] [(.int (2 : Int32)), (.int cc), (.int (4 : Int32)), (.ref b23), (.ref b4), (.ref gb210)])) t → Steps p.tables e below (s₁.setTop (entryFrame m #[(.int p0), (.int p1), (.int p2), (.int p3), (.int p4), (.int p5)] maxLocals)) t := by
      intro t k
      refine a223 t ?_
      show Steps p.tables e below (T222.setTop (mkF m 238 #[.val (.int p0), .val (.int p1), .val (.int p2), .val (.int p3), .val (.int p4), .val (.int p5), .val (.int cc), .val (.int (4 : Int32)), .val (.ref b4), .val (.ref b23), .val (.ref b45), .val (.ref gb210), .val (.int (if (4 : Int32) < cc then (4 : Int32) else cc))] [(.int (1 : Int32))])) _
      refine XS.ifNo X222.here hx rfl (hb hby at_238) rfl ((if0 _ _).trans (feq (by decide)).1) ?_
      refine XS.aload X222.here hx rfl (hb hby at_241) rfl rfl ?_
      refine XS.aload X222.here hx rfl (hb hby at_243) rfl rfl ?_
      refine XS.aload X222.here hx rfl (hb hby at_245) rfl rfl ?_
      refine XS.iload X222.here hx rfl (hb hby at_247) rfl ?_
      refine XS.iload X222.here hx rfl (hb hby at_249) rfl ?_
      refine XS.iconst X222.here hx rfl (hb hby at_251) ?_
      exact k
    obtain ⟨_, _, ⟨T225, L225, k225, n225⟩, -, X225, ⟨Lc225, hQ225, l225, y225, z225⟩, st225⟩ := Jvm.LawKit.callS X222 hx (y := (⟨"com/example/tillerfront/tillerfront/engine/NearestOfferPinLaw", "ok", "([I[I[DIII)Z"⟩ : MethodName)) hown (mvT hZ (hw _ (List.mem_of_getElem? (i := 35) rfl))) (mvT hZ (hw _ (List.mem_of_getElem? (i := 36) rfl))) (mvT hZ (hw _ (List.mem_of_getElem? (i := 37) rfl))) (mvT hZ (hw _ (List.mem_of_getElem? (i := 38) rfl))) (by decide) (backOf (W := 0) (rmOk l Z a0 hw [] gb210 b4 b23 (4 : Int32) cc (2 : Int32) kg210 kk4 kk23 sq207 ((runP (0 : Int32) cN [p0, p1, p2, p3] [e0, e1, e2, e3] 4).1.take (runP (0 : Int32) cN [p0, p1, p2, p3] [e0, e1, e2, e3] 4).2.2) [p0, p1, p2, p3] [e0, e1, e2, e3] (runP (0 : Int32) cN [p0, p1, p2, p3] [e0, e1, e2, e3] 4).2.2 4 cN 2 fv T210.heap n0 (Nat.le_trans (Nat.le_trans (Nat.le_trans (Nat.le_trans (Nat.le_trans (Nat.le_trans (Nat.le_trans (Nat.le_trans (Nat.le_trans (Nat.le_trans (Nat.le_trans (Nat.le_trans (Nat.le_trans (Nat.le_trans (Nat.le_trans (Nat.le_trans (Nat.le_trans Z0 E4.1) (Keep.of_wr W8).1) (Keep.of_wr W12).1) (Keep.of_wr W16).1) (Keep.of_wr W20).1) E23.1) (Keep.of_wr W28).1) (Keep.of_wr W33).1) (Keep.of_wr W38).1) (Keep.of_wr W43).1) E45.1) K48q.1) K186q.1) K193q.1) K200q.1) K207q.1) K210q.1) hf VG210 ((((((((Arv.other (Arv.other (Arv.other (Arv.other (V20.ext E23) W28 (Nat.ne_of_lt (Nat.lt_of_lt_of_le V20.lt (Nat.le_of_eq g23.symm)))) W33 (Nat.ne_of_lt (Nat.lt_of_lt_of_le V20.lt (Nat.le_of_eq g23.symm)))) W38 (Nat.ne_of_lt (Nat.lt_of_lt_of_le V20.lt (Nat.le_of_eq g23.symm)))) W43 (Nat.ne_of_lt (Nat.lt_of_lt_of_le V20.lt (Nat.le_of_eq g23.symm)))).ext E45).keep K48q (ninS (Nat.ne_of_lt (Nat.lt_of_lt_of_le (Arv.other (Arv.other (Arv.other (Arv.other (V20.ext E23) W28 (Nat.ne_of_lt (Nat.lt_of_lt_of_le V20.lt (Nat.le_of_eq g23.symm)))) W33 (Nat.ne_of_lt (Nat.lt_of_lt_of_le V20.lt (Nat.le_of_eq g23.symm)))) W38 (Nat.ne_of_lt (Nat.lt_of_lt_of_le V20.lt (Nat.le_of_eq g23.symm)))) W43 (Nat.ne_of_lt (Nat.lt_of_lt_of_le V20.lt (Nat.le_of_eq g23.symm)))).lt (Nat.le_of_eq g45.symm))) nin0)).keep K186q (ninS (Nat.ne_of_lt (Nat.lt_of_lt_of_le (Arv.other (Arv.other (Arv.other (Arv.other (V20.ext E23) W28 (Nat.ne_of_lt (Nat.lt_of_lt_of_le V20.lt (Nat.le_of_eq g23.symm)))) W33 (Nat.ne_of_lt (Nat.lt_of_lt_of_le V20.lt (Nat.le_of_eq g23.symm)))) W38 (Nat.ne_of_lt (Nat.lt_of_lt_of_le V20.lt (Nat.le_of_eq g23.symm)))) W43 (Nat.ne_of_lt (Nat.lt_of_lt_of_le V20.lt (Nat.le_of_eq g23.symm)))).lt (Nat.le_of_eq g45.symm))) (ninS (Nat.ne_of_lt (Nat.lt_of_lt_of_le ((Arv.other (Arv.other (Arv.other (Arv.other (V20.ext E23) W28 (Nat.ne_of_lt (Nat.lt_of_lt_of_le V20.lt (Nat.le_of_eq g23.symm)))) W33 (Nat.ne_of_lt (Nat.lt_of_lt_of_le V20.lt (Nat.le_of_eq g23.symm)))) W38 (Nat.ne_of_lt (Nat.lt_of_lt_of_le V20.lt (Nat.le_of_eq g23.symm)))) W43 (Nat.ne_of_lt (Nat.lt_of_lt_of_le V20.lt (Nat.le_of_eq g23.symm)))).ext E45).lt SI48)) (ninS (Nat.ne_of_lt (Nat.lt_of_lt_of_le ((Arv.other (Arv.other (Arv.other (Arv.other (V20.ext E23) W28 (Nat.ne_of_lt (Nat.lt_of_lt_of_le V20.lt (Nat.le_of_eq g23.symm)))) W33 (Nat.ne_of_lt (Nat.lt_of_lt_of_le V20.lt (Nat.le_of_eq g23.symm)))) W38 (Nat.ne_of_lt (Nat.lt_of_lt_of_le V20.lt (Nat.le_of_eq g23.symm)))) W43 (Nat.ne_of_lt (Nat.lt_of_lt_of_le V20.lt (Nat.le_of_eq g23.symm)))).ext E45).lt SD48)) nin0)))).keep K193q (ninS (Nat.ne_of_lt (Nat.lt_of_lt_of_le (Arv.other (Arv.other (Arv.other (Arv.other (V20.ext E23) W28 (Nat.ne_of_lt (Nat.lt_of_lt_of_le V20.lt (Nat.le_of_eq g23.symm)))) W33 (Nat.ne_of_lt (Nat.lt_of_lt_of_le V20.lt (Nat.le_of_eq g23.symm)))) W38 (Nat.ne_of_lt (Nat.lt_of_lt_of_le V20.lt (Nat.le_of_eq g23.symm)))) W43 (Nat.ne_of_lt (Nat.lt_of_lt_of_le V20.lt (Nat.le_of_eq g23.symm)))).lt (Nat.le_of_eq g45.symm))) (ninS (Nat.ne_of_lt (Nat.lt_of_lt_of_le ((Arv.other (Arv.other (Arv.other (Arv.other (V20.ext E23) W28 (Nat.ne_of_lt (Nat.lt_of_lt_of_le V20.lt (Nat.le_of_eq g23.symm)))) W33 (Nat.ne_of_lt (Nat.lt_of_lt_of_le V20.lt (Nat.le_of_eq g23.symm)))) W38 (Nat.ne_of_lt (Nat.lt_of_lt_of_le V20.lt (Nat.le_of_eq g23.symm)))) W43 (Nat.ne_of_lt (Nat.lt_of_lt_of_le V20.lt (Nat.le_of_eq g23.symm)))).ext E45).lt SI48)) (ninS (Nat.ne_of_lt (Nat.lt_of_lt_of_le ((Arv.other (Arv.other (Arv.other (Arv.other (V20.ext E23) W28 (Nat.ne_of_lt (Nat.lt_of_lt_of_le V20.lt (Nat.le_of_eq g23.symm)))) W33 (Nat.ne_of_lt (Nat.lt_of_lt_of_le V20.lt (Nat.le_of_eq g23.symm)))) W38 (Nat.ne_of_lt (Nat.lt_of_lt_of_le V20.lt (Nat.le_of_eq g23.symm)))) W43 (Nat.ne_of_lt (Nat.lt_of_lt_of_le V20.lt (Nat.le_of_eq g23.symm)))).ext E45).lt SD48)) nin0)))).keep K200q (ninS (Nat.ne_of_lt (Nat.lt_of_lt_of_le (Arv.other (Arv.other (Arv.other (Arv.other (V20.ext E23) W28 (Nat.ne_of_lt (Nat.lt_of_lt_of_le V20.lt (Nat.le_of_eq g23.symm)))) W33 (Nat.ne_of_lt (Nat.lt_of_lt_of_le V20.lt (Nat.le_of_eq g23.symm)))) W38 (Nat.ne_of_lt (Nat.lt_of_lt_of_le V20.lt (Nat.le_of_eq g23.symm)))) W43 (Nat.ne_of_lt (Nat.lt_of_lt_of_le V20.lt (Nat.le_of_eq g23.symm)))).lt (Nat.le_of_eq g45.symm))) (ninS (Nat.ne_of_lt (Nat.lt_of_lt_of_le ((Arv.other (Arv.other (Arv.other (Arv.other (V20.ext E23) W28 (Nat.ne_of_lt (Nat.lt_of_lt_of_le V20.lt (Nat.le_of_eq g23.symm)))) W33 (Nat.ne_of_lt (Nat.lt_of_lt_of_le V20.lt (Nat.le_of_eq g23.symm)))) W38 (Nat.ne_of_lt (Nat.lt_of_lt_of_le V20.lt (Nat.le_of_eq g23.symm)))) W43 (Nat.ne_of_lt (Nat.lt_of_lt_of_le V20.lt (Nat.le_of_eq g23.symm)))).ext E45).lt SI48)) (ninS (Nat.ne_of_lt (Nat.lt_of_lt_of_le ((Arv.other (Arv.other (Arv.other (Arv.other (V20.ext E23) W28 (Nat.ne_of_lt (Nat.lt_of_lt_of_le V20.lt (Nat.le_of_eq g23.symm)))) W33 (Nat.ne_of_lt (Nat.lt_of_lt_of_le V20.lt (Nat.le_of_eq g23.symm)))) W38 (Nat.ne_of_lt (Nat.lt_of_lt_of_le V20.lt (Nat.le_of_eq g23.symm)))) W43 (Nat.ne_of_lt (Nat.lt_of_lt_of_le V20.lt (Nat.le_of_eq g23.symm)))).ext E45).lt SD48)) nin0)))).keep K207q (ninS (Nat.ne_of_lt (Nat.lt_of_lt_of_le (Arv.other (Arv.other (Arv.other (Arv.other (V20.ext E23) W28 (Nat.ne_of_lt (Nat.lt_of_lt_of_le V20.lt (Nat.le_of_eq g23.symm)))) W33 (Nat.ne_of_lt (Nat.lt_of_lt_of_le V20.lt (Nat.le_of_eq g23.symm)))) W38 (Nat.ne_of_lt (Nat.lt_of_lt_of_le V20.lt (Nat.le_of_eq g23.symm)))) W43 (Nat.ne_of_lt (Nat.lt_of_lt_of_le V20.lt (Nat.le_of_eq g23.symm)))).lt (Nat.le_of_eq g45.symm))) (ninS (Nat.ne_of_lt (Nat.lt_of_lt_of_le ((Arv.other (Arv.other (Arv.other (Arv.other (V20.ext E23) W28 (Nat.ne_of_lt (Nat.lt_of_lt_of_le V20.lt (Nat.le_of_eq g23.symm)))) W33 (Nat.ne_of_lt (Nat.lt_of_lt_of_le V20.lt (Nat.le_of_eq g23.symm)))) W38 (Nat.ne_of_lt (Nat.lt_of_lt_of_le V20.lt (Nat.le_of_eq g23.symm)))) W43 (Nat.ne_of_lt (Nat.lt_of_lt_of_le V20.lt (Nat.le_of_eq g23.symm)))).ext E45).lt SI48)) (ninS (Nat.ne_of_lt (Nat.lt_of_lt_of_le ((Arv.other (Arv.other (Arv.other (Arv.other (V20.ext E23) W28 (Nat.ne_of_lt (Nat.lt_of_lt_of_le V20.lt (Nat.le_of_eq g23.symm)))) W33 (Nat.ne_of_lt (Nat.lt_of_lt_of_le V20.lt (Nat.le_of_eq g23.symm)))) W38 (Nat.ne_of_lt (Nat.lt_of_lt_of_le V20.lt (Nat.le_of_eq g23.symm)))) W43 (Nat.ne_of_lt (Nat.lt_of_lt_of_le V20.lt (Nat.le_of_eq g23.symm)))).ext E45).lt SD48)) nin0)))).keep K210q nin0) (((((((V43.ext E45).keep K48q (ninS (Nat.ne_of_lt (Nat.lt_of_lt_of_le V43.lt (Nat.le_of_eq g45.symm))) nin0)).keep K186q (ninS (Nat.ne_of_lt (Nat.lt_of_lt_of_le V43.lt (Nat.le_of_eq g45.symm))) (ninS (Nat.ne_of_lt (Nat.lt_of_lt_of_le (V43.ext E45).lt SI48)) (ninS (Nat.ne_of_lt (Nat.lt_of_lt_of_le (V43.ext E45).lt SD48)) nin0)))).keep K193q (ninS (Nat.ne_of_lt (Nat.lt_of_lt_of_le V43.lt (Nat.le_of_eq g45.symm))) (ninS (Nat.ne_of_lt (Nat.lt_of_lt_of_le (V43.ext E45).lt SI48)) (ninS (Nat.ne_of_lt (Nat.lt_of_lt_of_le (V43.ext E45).lt SD48)) nin0)))).keep K200q (ninS (Nat.ne_of_lt (Nat.lt_of_lt_of_le V43.lt (Nat.le_of_eq g45.symm))) (ninS (Nat.ne_of_lt (Nat.lt_of_lt_of_le (V43.ext E45).lt SI48)) (ninS (Nat.ne_of_lt (Nat.lt_of_lt_of_le (V43.ext E45).lt SD48)) nin0)))).keep K207q (ninS (Nat.ne_of_lt (Nat.lt_of_lt_of_le V43.lt (Nat.le_of_eq g45.symm))) (ninS (Nat.ne_of_lt (Nat.lt_of_lt_of_le (V43.ext E45).lt SI48)) (ninS (Nat.ne_of_lt (Nat.lt_of_lt_of_le (V43.ext E45).lt SD48)) nin0)))).keep K210q nin0) (ds4 he0 he1 he2 he3) hz207 (by decide) hcc.1 (by decide) (by decide) (own_fin hnear (by decide))) hZ (hw _ (List.mem_of_getElem? (i := 38) rfl)) (hw _ (List.mem_of_getElem? (i := 37) rfl)) (by decide) (by decide)) (g := (mkF m 252 #[.val (.int p0), .val (.int p1), .val (.int p2), .val (.int p3), .val (.int p4), .val (.int p5), .val (.int cc), .val (.int (4 : Int32)), .val (.ref b4), .val (.ref b23), .val (.ref b45), .val (.ref gb210), .val (.int (if (4 : Int32) < cc then (4 : Int32) else cc))] [(.int (2 : Int32)), (.int cc), (.int (4 : Int32)), (.ref b23), (.ref b4), (.ref gb210)])) rfl (by rw [hml]; rfl) (argsL := [(.ref gb210), (.ref b4), (.ref b23), (.int (4 : Int32)), (.int cc), (.int (2 : Int32))]) (rest := []) (lenOf own_pd6 rfl) rfl (by show 2 * 0 + _ ≤ _; exact Nat.le_of_eq rfl) (hb hby at_252) (fun _ _ => ⟨rfl, e222q, (by decide : 6 + 0 ≤ _), (by decide : 26 + 0 ≤ _)⟩)
    dsimp only [Pt.U, Pt.locs, Pt.cells, Pt.slots] at X225 l225 y225 z225 st225 hQ225
    subst l225 y225 z225
    obtain ⟨rfl, N225q, e225q⟩ := hQ225
    have N225 := Fr.app N222 N225q
    have a226 : ∀ t, Steps p.tables e below (T225.setTop (mkF m 255 #[.val (.int p0), .val (.int p1), .val (.int p2), .val (.int p3), .val (.int p4), .val (.int p5), .val (.int cc), .val (.int (4 : Int32)), .val (.ref b4), .val (.ref b23), .val (.ref b45), .val (.ref gb210), .val (.int (if (4 : Int32) < cc then (4 : Int32) else cc))] [(.int (1 : Int32))])) t → Steps p.tables e below (s₁.setTop (entryFrame m #[(.int p0), (.int p1), (.int p2), (.int p3), (.int p4), (.int p5)] maxLocals)) t := fun t k => a224 t (st225 t k)
    have a227 : ∀ t, Steps p.tables e below (T225.setTop (mkF m 269 #[.val (.int p0), .val (.int p1), .val (.int p2), .val (.int p3), .val (.int p4), .val (.int p5), .val (.int cc), .val (.int (4 : Int32)), .val (.ref b4), .val (.ref b23), .val (.ref b45), .val (.ref gb210), .val (.int (if (4 : Int32) < cc then (4 : Int32) else cc))] [(.int (3 : Int32)), (.int cc), (.int (4 : Int32)), (.ref b23), (.ref b4), (.ref gb210)])) t → Steps p.tables e below (s₁.setTop (entryFrame m #[(.int p0), (.int p1), (.int p2), (.int p3), (.int p4), (.int p5)] maxLocals)) t := by
      intro t k
      refine a226 t ?_
      show Steps p.tables e below (T225.setTop (mkF m 255 #[.val (.int p0), .val (.int p1), .val (.int p2), .val (.int p3), .val (.int p4), .val (.int p5), .val (.int cc), .val (.int (4 : Int32)), .val (.ref b4), .val (.ref b23), .val (.ref b45), .val (.ref gb210), .val (.int (if (4 : Int32) < cc then (4 : Int32) else cc))] [(.int (1 : Int32))])) _
      refine XS.ifNo X225.here hx rfl (hb hby at_255) rfl ((if0 _ _).trans (feq (by decide)).1) ?_
      refine XS.aload X225.here hx rfl (hb hby at_258) rfl rfl ?_
      refine XS.aload X225.here hx rfl (hb hby at_260) rfl rfl ?_
      refine XS.aload X225.here hx rfl (hb hby at_262) rfl rfl ?_
      refine XS.iload X225.here hx rfl (hb hby at_264) rfl ?_
      refine XS.iload X225.here hx rfl (hb hby at_266) rfl ?_
      refine XS.iconst X225.here hx rfl (hb hby at_268) ?_
      exact k
    obtain ⟨_, _, ⟨T228, L228, k228, n228⟩, -, X228, ⟨Lc228, hQ228, l228, y228, z228⟩, st228⟩ := Jvm.LawKit.callS X225 hx (y := (⟨"com/example/tillerfront/tillerfront/engine/NearestOfferPinLaw", "ok", "([I[I[DIII)Z"⟩ : MethodName)) hown (mvT hZ (hw _ (List.mem_of_getElem? (i := 35) rfl))) (mvT hZ (hw _ (List.mem_of_getElem? (i := 36) rfl))) (mvT hZ (hw _ (List.mem_of_getElem? (i := 37) rfl))) (mvT hZ (hw _ (List.mem_of_getElem? (i := 38) rfl))) (by decide) (backOf (W := 0) (rmOk l Z a0 hw [] gb210 b4 b23 (4 : Int32) cc (3 : Int32) kg210 kk4 kk23 sq207 ((runP (0 : Int32) cN [p0, p1, p2, p3] [e0, e1, e2, e3] 4).1.take (runP (0 : Int32) cN [p0, p1, p2, p3] [e0, e1, e2, e3] 4).2.2) [p0, p1, p2, p3] [e0, e1, e2, e3] (runP (0 : Int32) cN [p0, p1, p2, p3] [e0, e1, e2, e3] 4).2.2 4 cN 3 fv T210.heap n0 (Nat.le_trans (Nat.le_trans (Nat.le_trans (Nat.le_trans (Nat.le_trans (Nat.le_trans (Nat.le_trans (Nat.le_trans (Nat.le_trans (Nat.le_trans (Nat.le_trans (Nat.le_trans (Nat.le_trans (Nat.le_trans (Nat.le_trans (Nat.le_trans (Nat.le_trans Z0 E4.1) (Keep.of_wr W8).1) (Keep.of_wr W12).1) (Keep.of_wr W16).1) (Keep.of_wr W20).1) E23.1) (Keep.of_wr W28).1) (Keep.of_wr W33).1) (Keep.of_wr W38).1) (Keep.of_wr W43).1) E45.1) K48q.1) K186q.1) K193q.1) K200q.1) K207q.1) K210q.1) hf VG210 ((((((((Arv.other (Arv.other (Arv.other (Arv.other (V20.ext E23) W28 (Nat.ne_of_lt (Nat.lt_of_lt_of_le V20.lt (Nat.le_of_eq g23.symm)))) W33 (Nat.ne_of_lt (Nat.lt_of_lt_of_le V20.lt (Nat.le_of_eq g23.symm)))) W38 (Nat.ne_of_lt (Nat.lt_of_lt_of_le V20.lt (Nat.le_of_eq g23.symm)))) W43 (Nat.ne_of_lt (Nat.lt_of_lt_of_le V20.lt (Nat.le_of_eq g23.symm)))).ext E45).keep K48q (ninS (Nat.ne_of_lt (Nat.lt_of_lt_of_le (Arv.other (Arv.other (Arv.other (Arv.other (V20.ext E23) W28 (Nat.ne_of_lt (Nat.lt_of_lt_of_le V20.lt (Nat.le_of_eq g23.symm)))) W33 (Nat.ne_of_lt (Nat.lt_of_lt_of_le V20.lt (Nat.le_of_eq g23.symm)))) W38 (Nat.ne_of_lt (Nat.lt_of_lt_of_le V20.lt (Nat.le_of_eq g23.symm)))) W43 (Nat.ne_of_lt (Nat.lt_of_lt_of_le V20.lt (Nat.le_of_eq g23.symm)))).lt (Nat.le_of_eq g45.symm))) nin0)).keep K186q (ninS (Nat.ne_of_lt (Nat.lt_of_lt_of_le (Arv.other (Arv.other (Arv.other (Arv.other (V20.ext E23) W28 (Nat.ne_of_lt (Nat.lt_of_lt_of_le V20.lt (Nat.le_of_eq g23.symm)))) W33 (Nat.ne_of_lt (Nat.lt_of_lt_of_le V20.lt (Nat.le_of_eq g23.symm)))) W38 (Nat.ne_of_lt (Nat.lt_of_lt_of_le V20.lt (Nat.le_of_eq g23.symm)))) W43 (Nat.ne_of_lt (Nat.lt_of_lt_of_le V20.lt (Nat.le_of_eq g23.symm)))).lt (Nat.le_of_eq g45.symm))) (ninS (Nat.ne_of_lt (Nat.lt_of_lt_of_le ((Arv.other (Arv.other (Arv.other (Arv.other (V20.ext E23) W28 (Nat.ne_of_lt (Nat.lt_of_lt_of_le V20.lt (Nat.le_of_eq g23.symm)))) W33 (Nat.ne_of_lt (Nat.lt_of_lt_of_le V20.lt (Nat.le_of_eq g23.symm)))) W38 (Nat.ne_of_lt (Nat.lt_of_lt_of_le V20.lt (Nat.le_of_eq g23.symm)))) W43 (Nat.ne_of_lt (Nat.lt_of_lt_of_le V20.lt (Nat.le_of_eq g23.symm)))).ext E45).lt SI48)) (ninS (Nat.ne_of_lt (Nat.lt_of_lt_of_le ((Arv.other (Arv.other (Arv.other (Arv.other (V20.ext E23) W28 (Nat.ne_of_lt (Nat.lt_of_lt_of_le V20.lt (Nat.le_of_eq g23.symm)))) W33 (Nat.ne_of_lt (Nat.lt_of_lt_of_le V20.lt (Nat.le_of_eq g23.symm)))) W38 (Nat.ne_of_lt (Nat.lt_of_lt_of_le V20.lt (Nat.le_of_eq g23.symm)))) W43 (Nat.ne_of_lt (Nat.lt_of_lt_of_le V20.lt (Nat.le_of_eq g23.symm)))).ext E45).lt SD48)) nin0)))).keep K193q (ninS (Nat.ne_of_lt (Nat.lt_of_lt_of_le (Arv.other (Arv.other (Arv.other (Arv.other (V20.ext E23) W28 (Nat.ne_of_lt (Nat.lt_of_lt_of_le V20.lt (Nat.le_of_eq g23.symm)))) W33 (Nat.ne_of_lt (Nat.lt_of_lt_of_le V20.lt (Nat.le_of_eq g23.symm)))) W38 (Nat.ne_of_lt (Nat.lt_of_lt_of_le V20.lt (Nat.le_of_eq g23.symm)))) W43 (Nat.ne_of_lt (Nat.lt_of_lt_of_le V20.lt (Nat.le_of_eq g23.symm)))).lt (Nat.le_of_eq g45.symm))) (ninS (Nat.ne_of_lt (Nat.lt_of_lt_of_le ((Arv.other (Arv.other (Arv.other (Arv.other (V20.ext E23) W28 (Nat.ne_of_lt (Nat.lt_of_lt_of_le V20.lt (Nat.le_of_eq g23.symm)))) W33 (Nat.ne_of_lt (Nat.lt_of_lt_of_le V20.lt (Nat.le_of_eq g23.symm)))) W38 (Nat.ne_of_lt (Nat.lt_of_lt_of_le V20.lt (Nat.le_of_eq g23.symm)))) W43 (Nat.ne_of_lt (Nat.lt_of_lt_of_le V20.lt (Nat.le_of_eq g23.symm)))).ext E45).lt SI48)) (ninS (Nat.ne_of_lt (Nat.lt_of_lt_of_le ((Arv.other (Arv.other (Arv.other (Arv.other (V20.ext E23) W28 (Nat.ne_of_lt (Nat.lt_of_lt_of_le V20.lt (Nat.le_of_eq g23.symm)))) W33 (Nat.ne_of_lt (Nat.lt_of_lt_of_le V20.lt (Nat.le_of_eq g23.symm)))) W38 (Nat.ne_of_lt (Nat.lt_of_lt_of_le V20.lt (Nat.le_of_eq g23.symm)))) W43 (Nat.ne_of_lt (Nat.lt_of_lt_of_le V20.lt (Nat.le_of_eq g23.symm)))).ext E45).lt SD48)) nin0)))).keep K200q (ninS (Nat.ne_of_lt (Nat.lt_of_lt_of_le (Arv.other (Arv.other (Arv.other (Arv.other (V20.ext E23) W28 (Nat.ne_of_lt (Nat.lt_of_lt_of_le V20.lt (Nat.le_of_eq g23.symm)))) W33 (Nat.ne_of_lt (Nat.lt_of_lt_of_le V20.lt (Nat.le_of_eq g23.symm)))) W38 (Nat.ne_of_lt (Nat.lt_of_lt_of_le V20.lt (Nat.le_of_eq g23.symm)))) W43 (Nat.ne_of_lt (Nat.lt_of_lt_of_le V20.lt (Nat.le_of_eq g23.symm)))).lt (Nat.le_of_eq g45.symm))) (ninS (Nat.ne_of_lt (Nat.lt_of_lt_of_le ((Arv.other (Arv.other (Arv.other (Arv.other (V20.ext E23) W28 (Nat.ne_of_lt (Nat.lt_of_lt_of_le V20.lt (Nat.le_of_eq g23.symm)))) W33 (Nat.ne_of_lt (Nat.lt_of_lt_of_le V20.lt (Nat.le_of_eq g23.symm)))) W38 (Nat.ne_of_lt (Nat.lt_of_lt_of_le V20.lt (Nat.le_of_eq g23.symm)))) W43 (Nat.ne_of_lt (Nat.lt_of_lt_of_le V20.lt (Nat.le_of_eq g23.symm)))).ext E45).lt SI48)) (ninS (Nat.ne_of_lt (Nat.lt_of_lt_of_le ((Arv.other (Arv.other (Arv.other (Arv.other (V20.ext E23) W28 (Nat.ne_of_lt (Nat.lt_of_lt_of_le V20.lt (Nat.le_of_eq g23.symm)))) W33 (Nat.ne_of_lt (Nat.lt_of_lt_of_le V20.lt (Nat.le_of_eq g23.symm)))) W38 (Nat.ne_of_lt (Nat.lt_of_lt_of_le V20.lt (Nat.le_of_eq g23.symm)))) W43 (Nat.ne_of_lt (Nat.lt_of_lt_of_le V20.lt (Nat.le_of_eq g23.symm)))).ext E45).lt SD48)) nin0)))).keep K207q (ninS (Nat.ne_of_lt (Nat.lt_of_lt_of_le (Arv.other (Arv.other (Arv.other (Arv.other (V20.ext E23) W28 (Nat.ne_of_lt (Nat.lt_of_lt_of_le V20.lt (Nat.le_of_eq g23.symm)))) W33 (Nat.ne_of_lt (Nat.lt_of_lt_of_le V20.lt (Nat.le_of_eq g23.symm)))) W38 (Nat.ne_of_lt (Nat.lt_of_lt_of_le V20.lt (Nat.le_of_eq g23.symm)))) W43 (Nat.ne_of_lt (Nat.lt_of_lt_of_le V20.lt (Nat.le_of_eq g23.symm)))).lt (Nat.le_of_eq g45.symm))) (ninS (Nat.ne_of_lt (Nat.lt_of_lt_of_le ((Arv.other (Arv.other (Arv.other (Arv.other (V20.ext E23) W28 (Nat.ne_of_lt (Nat.lt_of_lt_of_le V20.lt (Nat.le_of_eq g23.symm)))) W33 (Nat.ne_of_lt (Nat.lt_of_lt_of_le V20.lt (Nat.le_of_eq g23.symm)))) W38 (Nat.ne_of_lt (Nat.lt_of_lt_of_le V20.lt (Nat.le_of_eq g23.symm)))) W43 (Nat.ne_of_lt (Nat.lt_of_lt_of_le V20.lt (Nat.le_of_eq g23.symm)))).ext E45).lt SI48)) (ninS (Nat.ne_of_lt (Nat.lt_of_lt_of_le ((Arv.other (Arv.other (Arv.other (Arv.other (V20.ext E23) W28 (Nat.ne_of_lt (Nat.lt_of_lt_of_le V20.lt (Nat.le_of_eq g23.symm)))) W33 (Nat.ne_of_lt (Nat.lt_of_lt_of_le V20.lt (Nat.le_of_eq g23.symm)))) W38 (Nat.ne_of_lt (Nat.lt_of_lt_of_le V20.lt (Nat.le_of_eq g23.symm)))) W43 (Nat.ne_of_lt (Nat.lt_of_lt_of_le V20.lt (Nat.le_of_eq g23.symm)))).ext E45).lt SD48)) nin0)))).keep K210q nin0) (((((((V43.ext E45).keep K48q (ninS (Nat.ne_of_lt (Nat.lt_of_lt_of_le V43.lt (Nat.le_of_eq g45.symm))) nin0)).keep K186q (ninS (Nat.ne_of_lt (Nat.lt_of_lt_of_le V43.lt (Nat.le_of_eq g45.symm))) (ninS (Nat.ne_of_lt (Nat.lt_of_lt_of_le (V43.ext E45).lt SI48)) (ninS (Nat.ne_of_lt (Nat.lt_of_lt_of_le (V43.ext E45).lt SD48)) nin0)))).keep K193q (ninS (Nat.ne_of_lt (Nat.lt_of_lt_of_le V43.lt (Nat.le_of_eq g45.symm))) (ninS (Nat.ne_of_lt (Nat.lt_of_lt_of_le (V43.ext E45).lt SI48)) (ninS (Nat.ne_of_lt (Nat.lt_of_lt_of_le (V43.ext E45).lt SD48)) nin0)))).keep K200q (ninS (Nat.ne_of_lt (Nat.lt_of_lt_of_le V43.lt (Nat.le_of_eq g45.symm))) (ninS (Nat.ne_of_lt (Nat.lt_of_lt_of_le (V43.ext E45).lt SI48)) (ninS (Nat.ne_of_lt (Nat.lt_of_lt_of_le (V43.ext E45).lt SD48)) nin0)))).keep K207q (ninS (Nat.ne_of_lt (Nat.lt_of_lt_of_le V43.lt (Nat.le_of_eq g45.symm))) (ninS (Nat.ne_of_lt (Nat.lt_of_lt_of_le (V43.ext E45).lt SI48)) (ninS (Nat.ne_of_lt (Nat.lt_of_lt_of_le (V43.ext E45).lt SD48)) nin0)))).keep K210q nin0) (ds4 he0 he1 he2 he3) hz207 (by decide) hcc.1 (by decide) (by decide) (own_fin hnear (by decide))) hZ (hw _ (List.mem_of_getElem? (i := 38) rfl)) (hw _ (List.mem_of_getElem? (i := 37) rfl)) (by decide) (by decide)) (g := (mkF m 269 #[.val (.int p0), .val (.int p1), .val (.int p2), .val (.int p3), .val (.int p4), .val (.int p5), .val (.int cc), .val (.int (4 : Int32)), .val (.ref b4), .val (.ref b23), .val (.ref b45), .val (.ref gb210), .val (.int (if (4 : Int32) < cc then (4 : Int32) else cc))] [(.int (3 : Int32)), (.int cc), (.int (4 : Int32)), (.ref b23), (.ref b4), (.ref gb210)])) rfl (by rw [hml]; rfl) (argsL := [(.ref gb210), (.ref b4), (.ref b23), (.int (4 : Int32)), (.int cc), (.int (3 : Int32))]) (rest := []) (lenOf own_pd6 rfl) rfl (by show 2 * 0 + _ ≤ _; exact Nat.le_of_eq rfl) (hb hby at_269) (fun _ _ => ⟨rfl, e225q, (by decide : 6 + 0 ≤ _), (by decide : 26 + 0 ≤ _)⟩)
    dsimp only [Pt.U, Pt.locs, Pt.cells, Pt.slots] at X228 l228 y228 z228 st228 hQ228
    subst l228 y228 z228
    obtain ⟨rfl, N228q, e228q⟩ := hQ228
    have N228 := Fr.app N225 N228q
    have a229 : ∀ t, Steps p.tables e below (T228.setTop (mkF m 272 #[.val (.int p0), .val (.int p1), .val (.int p2), .val (.int p3), .val (.int p4), .val (.int p5), .val (.int cc), .val (.int (4 : Int32)), .val (.ref b4), .val (.ref b23), .val (.ref b45), .val (.ref gb210), .val (.int (if (4 : Int32) < cc then (4 : Int32) else cc))] [(.int (1 : Int32))])) t → Steps p.tables e below (s₁.setTop (entryFrame m #[(.int p0), (.int p1), (.int p2), (.int p3), (.int p4), (.int p5)] maxLocals)) t := fun t k => a227 t (st228 t k)
    have a230 : ∀ t, Steps p.tables e below (T228.setTop (mkF m 280 #[.val (.int p0), .val (.int p1), .val (.int p2), .val (.int p3), .val (.int p4), .val (.int p5), .val (.int cc), .val (.int (4 : Int32)), .val (.ref b4), .val (.ref b23), .val (.ref b45), .val (.ref gb210), .val (.int (if (4 : Int32) < cc then (4 : Int32) else cc))] [(.int (1 : Int32))])) t → Steps p.tables e below (s₁.setTop (entryFrame m #[(.int p0), (.int p1), (.int p2), (.int p3), (.int p4), (.int p5)] maxLocals)) t := by
      intro t k
      refine a229 t ?_
      show Steps p.tables e below (T228.setTop (mkF m 272 #[.val (.int p0), .val (.int p1), .val (.int p2), .val (.int p3), .val (.int p4), .val (.int p5), .val (.int cc), .val (.int (4 : Int32)), .val (.ref b4), .val (.ref b23), .val (.ref b45), .val (.ref gb210), .val (.int (if (4 : Int32) < cc then (4 : Int32) else cc))] [(.int (1 : Int32))])) _
      refine XS.ifNo X228.here hx rfl (hb hby at_272) rfl ((if0 _ _).trans (feq (by decide)).1) ?_
      refine XS.iconst X228.here hx rfl (hb hby at_275) ?_
      refine XS.goto X228.here hx rfl (pc0 := 276) (pc' := 280) rfl (hb hby at_276) (by decide) (by decide) ?_
      exact k
    obtain ⟨fs, hr, hrun, hended, hW, hsame⟩ := X228.leave (v := some (.int (1 : Int32))) (fun h => by rw [Bd.returns] at h; cases h)
    refine ⟨_, _, a230 _ ?_, hrun, hended, _, _, rfl, ?_, ⟨_, rfl⟩, hW, hsame.mono (by decide) (by decide)⟩
    · show Steps p.tables e below (T228.setTop (mkF m 280 #[.val (.int p0), .val (.int p1), .val (.int p2), .val (.int p3), .val (.int p4), .val (.int p5), .val (.int cc), .val (.int (4 : Int32)), .val (.ref b4), .val (.ref b23), .val (.ref b45), .val (.ref gb210), .val (.int (if (4 : Int32) < cc then (4 : Int32) else cc))] [(.int (1 : Int32))])) _
      exact retN X228 hx (t := .boolean) Bd.returns (by simp) (hb hby at_280) hr
    · show Q0 Z p0 p1 p2 p3 p4 p5 h0 n0 _ T228.heap _
      rw [e228q]
      exact ⟨rfl, N228⟩
set_option maxRecDepth 65536 in
set_option maxHeartbeats 40000000 in
theorem comes_1 {Post : Tables → Env → Array Value → State → Outcome → State → Prop} (hpost : ∀ tb e args s v u, (limb_1_1.after args s (.returned v) u = true ∧ limb_1_2.after args s (.returned v) u = true ∧ True) → FrameEnd s (.returned v) u (Jvm.fieldLocs frame_1_writes args s ++ Jvm.arrayLocs frame_1_arrays args s ++ Jvm.staticLocs frame_1_statics s) 24 128 → Post tb e args s (.returned v) u) :
    ArmFor flags0 classFile x code maxLocals ret World_1 tables_1 room_1 Calls_1 rest_1 Pre_1 Post := by
  intro l hfl _ _ p e ha hc hk s m args below hf hA hF happ hP
  obtain ⟨hcalls, hrest, hpre⟩ := hP
  obtain ⟨-, -, -, hnamed, -, -, -, hat⟩ := (Spec.applies_iff hf).mp happ
  obtain ⟨hg, hn⟩ := and_e (Cond.before_iff.mp (show (Jvm.Cond.and given_1 narrow_1).before args s = true from hpre))
  obtain ⟨g1, g2⟩ := and_e hg
  obtain ⟨g3, g4⟩ := and_e g2
  obtain ⟨g5, g6⟩ := and_e g4
  obtain ⟨g7, g8⟩ := and_e g6
  obtain ⟨g9, g10⟩ := and_e g8
  obtain ⟨g11, g12⟩ := and_e g10
  obtain ⟨w0, w1, w2, w3, w4, w5, rfl⟩ : ∃ w0 w1 w2 w3 w4 w5 : Value, args = #[w0, w1, w2, w3, w4, w5] := by
    have hs : args.size = 6 := by simpa [Cond.value, given_1] using g1
    obtain ⟨L⟩ := args
    match L, hs with
    | [w0, w1, w2, w3, w4, w5], _ => exact ⟨w0, w1, w2, w3, w4, w5, rfl⟩
  have hw := fun d (hd : d ∈ tables_1) => atoms_spec (ws := Jvm.Cond.code x code maxLocals ret :: tables_1) hat d (List.mem_cons_of_mem _ hd)
  have hfit : Fit s := fun {y c} hc i hi => by
    obtain ⟨ha, rfl⟩ := Array.getElem?_eq_some_iff.mp hc
    have q := List.all_eq_true.mp ((Array.all_eq_true_iff_forall_mem.mp hF) _ (Array.getElem_mem ha)) i (List.mem_range.mpr hi)
    simpa [Array.getElem?_eq_getElem hi] using q
  obtain ⟨i0, ei0⟩ := is_v g3
  obtain rfl : w0 = (.int i0) := Option.some.inj ei0
  obtain ⟨i1, ei1⟩ := is_v g5
  obtain rfl : w1 = (.int i1) := Option.some.inj ei1
  obtain ⟨i2, ei2⟩ := is_v g7
  obtain rfl : w2 = (.int i2) := Option.some.inj ei2
  obtain ⟨i3, ei3⟩ := is_v g9
  obtain rfl : w3 = (.int i3) := Option.some.inj ei3
  obtain ⟨i4, ei4⟩ := is_v g11
  obtain rfl : w4 = (.int i4) := Option.some.inj ei4
  obtain ⟨i5, ei5⟩ := is_v g12
  obtain rfl : w5 = (.int i5) := Option.some.inj ei5
  obtain ⟨n, o, h1, h2, h3, _, L, rfl, ⟨rfl, N⟩, hq⟩ := rm0 l s _ hw tables_1 i0 i1 i2 i3 i4 i5  s.heap s.heap.size (Nat.le_refl _)  p e ha hc hk s m _ below hf ((Spec.applies_iff_loose hf).mp happ).1 ⟨rfl, State.Warmed39.refl s, rfl⟩ trivial
  refine ⟨n, _, h1, h2, h3, hpost _ _ _ _ _ _ ⟨Cond.after_iff.mpr rfl, Cond.after_iff.mpr (eq_i res_at (Term.int_eval (1)) rfl), trivial⟩ ⟨hq.1, hq.2.1, (hq.2.2.sift fun y hy => Or.inr (N y hy)).mono (by decide) (by decide)⟩⟩
theorem main_1_1 : Claimed_1_1 := comes_1 fun _ _ _ _ _ _ h hF => ⟨h.1, hF⟩
theorem main_1_2 : Claimed_1_2 := comes_1 fun _ _ _ _ _ _ h hF => ⟨h.2.1, hF⟩
end Jvm.Pilot.@@N@@
namespace Jvm.Pilot.@@N@@
open Jvm Jvm.ClassFile Sem Op Lib Jvm.Free Jvm.Stand Jvm.Pilot.@@N@@.Jvm.D
/-! MADE BY PROGRAM (witnessworld.py) out of the Statement's table words and the real class files: 14 classes; the members and pool entries that the words name. The judged class is class 1, her method 1. -/
namespace start1
open Jvm.ClassFile
def u (s : String) : CpInfo := .utf8 (stringToUtf16 s)
/-- a pool by its gaps: so many unusable entries, then the entry; so many at the end -/
def gap : Nat → List CpInfo → List CpInfo
  | 0, r => r
  | n + 1, r => .unusable :: gap n r
def poolList (es : List (Nat × CpInfo)) (last : Nat) : List CpInfo := es.foldr (fun e r => gap e.1 (e.2 :: r)) (gap last [])
def pool (es : List (Nat × CpInfo)) (last : Nat) : Array CpInfo := ⟨poolList es last⟩
def fileOf (pool : Array CpInfo) (this : Nat) (attrs : Array Attribute := #[]) (ms : Array MethodInfo := #[]) (fl : Nat := 33) (sup : Nat := 0) (ifs : Array Nat := #[]) (fds : Array FieldInfo := #[]) : ClassFile where
  minorVersion := 0
  majorVersion := 65
  constantPool := pool
  accessFlags := fl
  thisClass := this
  superClass := sup
  interfaces := ifs
  fields := fds
  methods := ms
  attributes := attrs
def plain (name : String) (sup : Option ClassId) : Class where
  name := name
  kind := .ordinary
  loader := none
  accessFlags := 33
  super := sup
  interfaces := #[]
  cf := none
  fields := #[]
  methods := #[]
  instanceTypes := #[]
  staticTypes := #[]
  resolved := #[]
  callSites := []
  init := .initialized
  statics := none
  mirror := none

def pool0 : Array CpInfo := pool [(5, u "<init>"), (0, u "()V"), (1, .class_ 10), (1, u "java/lang/Object"), (85, u "clone"), (0, u "()Ljava/lang/Object;")] 26

def k0c0 : Code := { maxStack := 0, maxLocals := 1, code := object_method_1_code, exceptionTable := #[], attributes := #[] }
def k0m0 : Method := { name := "<init>", desc := "()V", sig := { parameters := [], returnType := none }, accessFlags := 1, code := some k0c0 }
def k0m1 : Method := { name := "clone", desc := "()Ljava/lang/Object;", sig := { parameters := [], returnType := some (.object "java/lang/Object") }, accessFlags := 260, code := none }
/-- java/lang/Object -/
def k0 : Class := { plain "java/lang/Object" none with
  accessFlags := 33
  interfaces := #[]
  cf := some (fileOf pool0 8 #[] #[{ accessFlags := 1, nameIndex := 5, descriptorIndex := 6, attributes := #[] }, { accessFlags := 260, nameIndex := 96, descriptorIndex := 97, attributes := #[] }] 33 0 #[] #[])
  fields := #[]
  methods := #[k0m0, k0m1]
  instanceTypes := #[]
  staticTypes := #[]
  resolved := Array.replicate 124 none
  statics := none }

def pool1 : Array CpInfo := pool [(2, .class_ 4), (1, u "java/lang/Object"), (0, u "<init>"), (0, u "()V"), (0, .class_ 8), (0, u "com/example/tillerfront/tillerfront/engine/Nearest"), (0, .methodref 7 10), (0, .nameAndType 5 11), (0, u "(I)V"), (0, .methodref 7 13), (0, .nameAndType 14 15), (0, u "offer"), (0, u "(ID)V"), (0, .methodref 7 17), (0, .nameAndType 18 19), (0, u "indices"), (0, u "()[I"), (0, .methodref 21 22), (0, .class_ 23), (0, .nameAndType 24 25), (0, u "java/lang/Math"), (0, u "min"), (0, u "(II)I"), (0, .methodref 27 28), (0, .class_ 29), (0, .nameAndType 30 31), (0, u "com/example/tillerfront/tillerfront/engine/NearestOfferPinLaw"), (0, u "ok"), (0, u "([I[I[DIII)Z"), (0, .methodref 27 33), (0, .nameAndType 34 35), (0, u "rank"), (0, u "([DII)I"), (0, .methodref 27 37), (0, .nameAndType 38 39), (0, u "before"), (0, u "([DIII)I"), (2, u "law"), (0, u "(IIIIII)Z")] 7

def k1m0 : Method := { name := "<init>", desc := "()V", sig := { parameters := [], returnType := none }, accessFlags := 1, code := none }
def k1c1 : Code := { maxStack := 6, maxLocals := 13, code := code, exceptionTable := #[], attributes := #[] }
def k1m1 : Method := { name := "law", desc := "(IIIIII)Z", sig := { parameters := [.int, .int, .int, .int, .int, .int], returnType := some .boolean }, accessFlags := 9, code := some k1c1 }
def k1c2 : Code := { maxStack := 3, maxLocals := 7, code := method_3_code, exceptionTable := #[], attributes := #[] }
def k1m2 : Method := { name := "ok", desc := "([I[I[DIII)Z", sig := { parameters := [(.array .int), (.array .int), (.array .double), .int, .int, .int], returnType := some .boolean }, accessFlags := 10, code := some k1c2 }
def k1c3 : Code := { maxStack := 5, maxLocals := 3, code := method_4_code, exceptionTable := #[], attributes := #[] }
def k1m3 : Method := { name := "rank", desc := "([DII)I", sig := { parameters := [(.array .double), .int, .int], returnType := some .int }, accessFlags := 10, code := some k1c3 }
def k1c4 : Code := { maxStack := 4, maxLocals := 4, code := method_5_code, exceptionTable := #[], attributes := #[] }
def k1m4 : Method := { name := "before", desc := "([DIII)I", sig := { parameters := [(.array .double), .int, .int, .int], returnType := some .int }, accessFlags := 10, code := some k1c4 }
/-- com/example/tillerfront/tillerfront/engine/NearestOfferPinLaw -/
def k1 : Class := { plain "com/example/tillerfront/tillerfront/engine/NearestOfferPinLaw" (some 0) with
  accessFlags := 49
  interfaces := #[]
  cf := some (fileOf pool1 27 #[] #[{ accessFlags := 1, nameIndex := 5, descriptorIndex := 6, attributes := #[] }, { accessFlags := 9, nameIndex := 42, descriptorIndex := 43, attributes := #[] }, { accessFlags := 10, nameIndex := 30, descriptorIndex := 31, attributes := #[] }, { accessFlags := 10, nameIndex := 34, descriptorIndex := 35, attributes := #[] }, { accessFlags := 10, nameIndex := 38, descriptorIndex := 39, attributes := #[] }] 49 2 #[] #[])
  fields := #[]
  methods := #[k1m0, k1m1, k1m2, k1m3, k1m4]
  instanceTypes := #[]
  staticTypes := #[]
  resolved := Array.replicate 51 none
  statics := none }

def pool2 : Array CpInfo := pool [(1, .methodref 2 3), (0, .class_ 4), (0, .nameAndType 5 6), (0, u "java/lang/Object"), (0, u "<init>"), (0, u "()V"), (0, .fieldref 8 9), (0, .class_ 10), (0, .nameAndType 11 12), (0, u "com/example/tillerfront/tillerfront/engine/Nearest"), (0, u "indices"), (0, u "[I"), (0, .fieldref 8 14), (0, .nameAndType 15 16), (0, u "distances"), (0, u "[D"), (0, .fieldref 8 18), (0, .nameAndType 19 20), (0, u "size"), (0, u "I"), (0, .methodref 22 23), (0, .class_ 24), (0, .nameAndType 25 26), (0, u "java/util/Arrays"), (0, u "copyOf"), (0, u "([II)[I"), (0, u "(I)V"), (2, u "offer"), (0, u "(ID)V"), (1, u "()[I")] 2

def k2c0 : Code := { maxStack := 2, maxLocals := 2, code := prog_21_method_1_code, exceptionTable := #[], attributes := #[] }
def k2m0 : Method := { name := "<init>", desc := "(I)V", sig := { parameters := [.int], returnType := none }, accessFlags := 0, code := some k2c0 }
def k2c1 : Code := { maxStack := 5, maxLocals := 6, code := prog_21_method_2_code, exceptionTable := #[], attributes := #[] }
def k2m1 : Method := { name := "offer", desc := "(ID)V", sig := { parameters := [.int, .double], returnType := none }, accessFlags := 0, code := some k2c1 }
def k2c2 : Code := { maxStack := 2, maxLocals := 1, code := prog_21_method_3_code, exceptionTable := #[], attributes := #[] }
def k2m2 : Method := { name := "indices", desc := "()[I", sig := { parameters := [], returnType := some (.array .int) }, accessFlags := 0, code := some k2c2 }
/-- com/example/tillerfront/tillerfront/engine/Nearest -/
def k2 : Class := { plain "com/example/tillerfront/tillerfront/engine/Nearest" (some 0) with
  accessFlags := 48
  interfaces := #[]
  cf := some (fileOf pool2 8 #[] #[{ accessFlags := 0, nameIndex := 5, descriptorIndex := 27, attributes := #[] }, { accessFlags := 0, nameIndex := 30, descriptorIndex := 31, attributes := #[] }, { accessFlags := 0, nameIndex := 11, descriptorIndex := 33, attributes := #[] }] 48 2 #[] #[{ accessFlags := 18, nameIndex := 11, descriptorIndex := 12, attributes := #[] }, { accessFlags := 18, nameIndex := 15, descriptorIndex := 16, attributes := #[] }, { accessFlags := 2, nameIndex := 19, descriptorIndex := 20, attributes := #[] }])
  fields := #[{ name := "indices", type := (.array .int), accessFlags := 18, slot := 0, constantValue := 0 }, { name := "distances", type := (.array .double), accessFlags := 18, slot := 1, constantValue := 0 }, { name := "size", type := .int, accessFlags := 2, slot := 2, constantValue := 0 }]
  methods := #[k2m0, k2m1, k2m2]
  instanceTypes := #[(.array .int), (.array .double), .int]
  staticTypes := #[]
  resolved := Array.replicate 36 none
  statics := none }

def pool3 : Array CpInfo := pool [(2, .class_ 4), (1, u "java/lang/Object"), (0, u "<init>"), (0, u "()V"), (7, .class_ 16), (1, u "java/util/Arrays"), (57, .class_ 76), (1, u "java/util/Arrays$NaturalOrder"), (32, u "()Ljava/lang/Object;"), (3, .class_ 115), (1, u "java/util/Arrays$LegacyMergeSort"), (1, u "Z"), (10, .nameAndType 129 109), (0, u "clone"), (20, .methodref 151 152), (0, .class_ 153), (0, .nameAndType 154 155), (0, u "java/lang/System"), (0, u "arraycopy"), (0, u "(Ljava/lang/Object;ILjava/lang/Object;II)V"), (146, u "copyOf"), (1, .methodref 305 306), (0, .class_ 307), (0, .nameAndType 308 309), (0, u "java/lang/Math"), (0, u "min"), (0, u "(II)I"), (6, .methodref 317 128), (0, .class_ 318), (0, u "[I"), (56, .class_ 376), (0, u "java/util/Arrays$ArrayList"), (68, u "$assertionsDisabled"), (269, u "MIN_ARRAY_SORT_GRAN"), (0, u "I"), (2, u "INSERTIONSORT_THRESHOLD"), (151, u "([II)[I"), (103, .class_ 976), (0, u "java/util/Arrays$ArrayItr")] 52

def k3m0 : Method := { name := "<init>", desc := "()V", sig := { parameters := [], returnType := none }, accessFlags := 2, code := none }
def k3c1 : Code := { maxStack := 6, maxLocals := 3, code := jdk_65_method_123_code, exceptionTable := #[], attributes := #[] }
def k3m1 : Method := { name := "copyOf", desc := "([II)[I", sig := { parameters := [(.array .int), .int], returnType := some (.array .int) }, accessFlags := 9, code := some k3c1 }
/-- java/util/Arrays -/
def k3 : Class := { plain "java/util/Arrays" (some 0) with
  accessFlags := 49
  interfaces := #[]
  cf := some (fileOf pool3 14 #[.nestMembers #[975, 375, 113, 74]] #[{ accessFlags := 2, nameIndex := 5, descriptorIndex := 6, attributes := #[] }, { accessFlags := 9, nameIndex := 302, descriptorIndex := 871, attributes := #[] }] 49 2 #[] #[{ accessFlags := 26, nameIndex := 715, descriptorIndex := 716, attributes := #[] }, { accessFlags := 26, nameIndex := 719, descriptorIndex := 716, attributes := #[] }, { accessFlags := 4120, nameIndex := 445, descriptorIndex := 117, attributes := #[] }])
  fields := #[{ name := "MIN_ARRAY_SORT_GRAN", type := .int, accessFlags := 26, slot := 0, constantValue := 0 }, { name := "INSERTIONSORT_THRESHOLD", type := .int, accessFlags := 26, slot := 1, constantValue := 0 }, { name := "$assertionsDisabled", type := .boolean, accessFlags := 4120, slot := 2, constantValue := 0 }]
  methods := #[k3m0, k3m1]
  instanceTypes := #[]
  staticTypes := #[.int, .int, .boolean]
  resolved := Array.replicate 1029 none
  statics := none }

def pool4 : Array CpInfo := pool [(1, .class_ 2), (0, u "java/lang/Math"), (1, .class_ 6), (1, u "java/lang/Object"), (0, u "<init>"), (0, u "()V"), (89, .class_ 100), (1, u "java/lang/Math$RandomNumberGeneratorHolder"), (71, u "negativeZeroFloatBits"), (0, u "J"), (2, u "negativeZeroDoubleBits"), (24, u "min"), (43, u "$assertionsDisabled"), (0, u "Z"), (88, u "(II)I"), (2, u "twoToTheDoubleScaleDown"), (0, u "D"), (4, u "twoToTheDoubleScaleUp"), (9, u "E"), (3, u "PI"), (2, u "TAU"), (2, u "DEGREES_TO_RADIANS"), (0, u "RADIANS_TO_DEGREES")] 94

def k4m0 : Method := { name := "<init>", desc := "()V", sig := { parameters := [], returnType := none }, accessFlags := 2, code := none }
def k4c1 : Code := { maxStack := 2, maxLocals := 2, code := jdk_29_method_69_code, exceptionTable := #[], attributes := #[] }
def k4m1 : Method := { name := "min", desc := "(II)I", sig := { parameters := [.int, .int], returnType := some .int }, accessFlags := 9, code := some k4c1 }
/-- java/lang/Math -/
def k4 : Class := { plain "java/lang/Math" (some 0) with
  accessFlags := 49
  interfaces := #[]
  cf := some (fileOf pool4 1 #[.nestMembers #[98]] #[{ accessFlags := 2, nameIndex := 7, descriptorIndex := 8, attributes := #[] }, { accessFlags := 9, nameIndex := 201, descriptorIndex := 335, attributes := #[] }] 49 4 #[] #[{ accessFlags := 25, nameIndex := 354, descriptorIndex := 339, attributes := #[] }, { accessFlags := 25, nameIndex := 358, descriptorIndex := 339, attributes := #[] }, { accessFlags := 25, nameIndex := 361, descriptorIndex := 339, attributes := #[] }, { accessFlags := 26, nameIndex := 364, descriptorIndex := 339, attributes := #[] }, { accessFlags := 26, nameIndex := 365, descriptorIndex := 339, attributes := #[] }, { accessFlags := 26, nameIndex := 172, descriptorIndex := 173, attributes := #[] }, { accessFlags := 26, nameIndex := 176, descriptorIndex := 173, attributes := #[] }, { accessFlags := 8, nameIndex := 344, descriptorIndex := 339, attributes := #[] }, { accessFlags := 8, nameIndex := 338, descriptorIndex := 339, attributes := #[] }, { accessFlags := 4120, nameIndex := 245, descriptorIndex := 246, attributes := #[] }])
  fields := #[{ name := "E", type := .double, accessFlags := 25, slot := 0, constantValue := 0 }, { name := "PI", type := .double, accessFlags := 25, slot := 1, constantValue := 0 }, { name := "TAU", type := .double, accessFlags := 25, slot := 2, constantValue := 0 }, { name := "DEGREES_TO_RADIANS", type := .double, accessFlags := 26, slot := 3, constantValue := 0 }, { name := "RADIANS_TO_DEGREES", type := .double, accessFlags := 26, slot := 4, constantValue := 0 }, { name := "negativeZeroFloatBits", type := .long, accessFlags := 26, slot := 5, constantValue := 0 }, { name := "negativeZeroDoubleBits", type := .long, accessFlags := 26, slot := 6, constantValue := 0 }, { name := "twoToTheDoubleScaleUp", type := .double, accessFlags := 8, slot := 7, constantValue := 0 }, { name := "twoToTheDoubleScaleDown", type := .double, accessFlags := 8, slot := 8, constantValue := 0 }, { name := "$assertionsDisabled", type := .boolean, accessFlags := 4120, slot := 9, constantValue := 0 }]
  methods := #[k4m0, k4m1]
  instanceTypes := #[]
  staticTypes := #[.double, .double, .double, .double, .double, .long, .long, .double, .double, .boolean]
  resolved := Array.replicate 460 none
  statics := none }

def pool5 : Array CpInfo := pool [(2, .class_ 4), (1, u "java/lang/Object"), (0, u "<init>"), (0, u "()V"), (1, .class_ 10), (1, u "java/lang/System"), (0, u "allowSecurityManager"), (0, u "I"), (16, u "cons"), (0, u "Ljava/io/Console;"), (77, .class_ 110), (1, u "java/lang/System$CallersHolder"), (43, u "initialErrStream"), (0, u "Ljava/io/PrintStream;"), (19, u "security"), (0, u "Ljava/lang/SecurityManager;"), (31, .class_ 209), (0, u "java/lang/System$1"), (7, u "props"), (0, u "Ljava/util/Properties;"), (2, u "lineSeparator"), (0, u "Ljava/lang/String;"), (96, .class_ 321), (1, u "java/lang/System$LoggerFinder"), (5, .class_ 328), (0, u "java/lang/System$Logger"), (67, u "err"), (2, u "out"), (91, u "notSupportedJnuEncoding"), (15, u "in"), (17, u "initialIn"), (0, u "Ljava/io/InputStream;"), (35, u "bootLayer"), (0, u "Ljava/lang/ModuleLayer;"), (99, .class_ 664), (0, u "java/lang/System$2"), (9, u "NEVER"), (2, u "MAYBE"), (49, u "arraycopy"), (0, u "(Ljava/lang/Object;ILjava/lang/Object;II)V"), (72, .class_ 802), (0, u "java/lang/System$Logger$Level")] 31

def k5m0 : Method := { name := "<init>", desc := "()V", sig := { parameters := [], returnType := none }, accessFlags := 2, code := none }
def k5m1 : Method := { name := "arraycopy", desc := "(Ljava/lang/Object;ILjava/lang/Object;II)V", sig := { parameters := [(.object "java/lang/Object"), .int, (.object "java/lang/Object"), .int, .int], returnType := none }, accessFlags := 265, code := none }
/-- java/lang/System -/
def k5 : Class := { plain "java/lang/System" (some 0) with
  accessFlags := 49
  interfaces := #[]
  cf := some (fileOf pool5 8 #[.nestMembers #[319, 327, 801, 108, 663, 208]] #[{ accessFlags := 2, nameIndex := 5, descriptorIndex := 6, attributes := #[] }, { accessFlags := 265, nameIndex := 727, descriptorIndex := 728, attributes := #[] }] 49 2 #[] #[{ accessFlags := 25, nameIndex := 507, descriptorIndex := 526, attributes := #[] }, { accessFlags := 25, nameIndex := 399, descriptorIndex := 155, attributes := #[] }, { accessFlags := 25, nameIndex := 396, descriptorIndex := 155, attributes := #[] }, { accessFlags := 10, nameIndex := 525, descriptorIndex := 526, attributes := #[] }, { accessFlags := 26, nameIndex := 674, descriptorIndex := 12, attributes := #[] }, { accessFlags := 26, nameIndex := 677, descriptorIndex := 12, attributes := #[] }, { accessFlags := 10, nameIndex := 11, descriptorIndex := 12, attributes := #[] }, { accessFlags := 74, nameIndex := 175, descriptorIndex := 176, attributes := #[] }, { accessFlags := 10, nameIndex := 491, descriptorIndex := 222, attributes := #[] }, { accessFlags := 74, nameIndex := 29, descriptorIndex := 30, attributes := #[] }, { accessFlags := 74, nameIndex := 154, descriptorIndex := 155, attributes := #[] }, { accessFlags := 10, nameIndex := 217, descriptorIndex := 218, attributes := #[] }, { accessFlags := 10, nameIndex := 221, descriptorIndex := 222, attributes := #[] }, { accessFlags := 8, nameIndex := 562, descriptorIndex := 563, attributes := #[] }])
  fields := #[{ name := "in", type := (.object "java/io/InputStream"), accessFlags := 25, slot := 0, constantValue := 0 }, { name := "out", type := (.object "java/io/PrintStream"), accessFlags := 25, slot := 1, constantValue := 0 }, { name := "err", type := (.object "java/io/PrintStream"), accessFlags := 25, slot := 2, constantValue := 0 }, { name := "initialIn", type := (.object "java/io/InputStream"), accessFlags := 10, slot := 3, constantValue := 0 }, { name := "NEVER", type := .int, accessFlags := 26, slot := 4, constantValue := 0 }, { name := "MAYBE", type := .int, accessFlags := 26, slot := 5, constantValue := 0 }, { name := "allowSecurityManager", type := .int, accessFlags := 10, slot := 6, constantValue := 0 }, { name := "security", type := (.object "java/lang/SecurityManager"), accessFlags := 74, slot := 7, constantValue := 0 }, { name := "notSupportedJnuEncoding", type := (.object "java/lang/String"), accessFlags := 10, slot := 8, constantValue := 0 }, { name := "cons", type := (.object "java/io/Console"), accessFlags := 74, slot := 9, constantValue := 0 }, { name := "initialErrStream", type := (.object "java/io/PrintStream"), accessFlags := 74, slot := 10, constantValue := 0 }, { name := "props", type := (.object "java/util/Properties"), accessFlags := 10, slot := 11, constantValue := 0 }, { name := "lineSeparator", type := (.object "java/lang/String"), accessFlags := 10, slot := 12, constantValue := 0 }, { name := "bootLayer", type := (.object "java/lang/ModuleLayer"), accessFlags := 8, slot := 13, constantValue := 0 }]
  methods := #[k5m0, k5m1]
  instanceTypes := #[]
  staticTypes := #[(.object "java/io/InputStream"), (.object "java/io/PrintStream"), (.object "java/io/PrintStream"), (.object "java/io/InputStream"), .int, .int, .int, (.object "java/lang/SecurityManager"), (.object "java/lang/String"), (.object "java/io/Console"), (.object "java/io/PrintStream"), (.object "java/util/Properties"), (.object "java/lang/String"), (.object "java/lang/ModuleLayer")]
  resolved := Array.replicate 834 none
  statics := none }

def pool6 : Array CpInfo := pool [(1, .class_ 2), (0, u "java/lang/Cloneable"), (0, .class_ 4), (0, u "java/lang/Object")] 2

/-- java/lang/Cloneable -/
def k6 : Class := { plain "java/lang/Cloneable" (some 0) with
  accessFlags := 1537
  interfaces := #[]
  cf := some (fileOf pool6 1 #[] #[] 1537 3 #[] #[])
  fields := #[]
  methods := #[]
  instanceTypes := #[]
  staticTypes := #[]
  resolved := Array.replicate 7 none
  statics := none }

def pool7 : Array CpInfo := pool [(1, u "java/io/Serializable"), (0, .class_ 1), (0, u "java/lang/Object"), (0, .class_ 3)] 3

/-- java/io/Serializable -/
def k7 : Class := { plain "java/io/Serializable" (some 0) with
  accessFlags := 1537
  interfaces := #[]
  cf := some (fileOf pool7 2 #[] #[] 1537 4 #[] #[])
  fields := #[]
  methods := #[]
  instanceTypes := #[]
  staticTypes := #[]
  resolved := Array.replicate 8 none
  statics := none }

/-- the primitive byte -/
def k8 : Class := { plain "byte" none with kind := .primitive 'B', accessFlags := 0x411 }
/-- [B -/
def k9 : Class := { plain "[B" (some 0) with kind := .array 8 .byte, interfaces := #[6, 7], accessFlags := 1041 }

/-- the primitive double -/
def k10 : Class := { plain "double" none with kind := .primitive 'D', accessFlags := 0x411 }
/-- [D -/
def k11 : Class := { plain "[D" (some 0) with kind := .array 10 .double, interfaces := #[6, 7], accessFlags := 1041 }

/-- the primitive int -/
def k12 : Class := { plain "int" none with kind := .primitive 'I', accessFlags := 0x411 }
/-- [I -/
def k13 : Class := { plain "[I" (some 0) with kind := .array 12 .int, interfaces := #[6, 7], accessFlags := 1041 }

def heap : Heap := #[]
def classes : Array Class := #[k0, k1, k2, k3, k4, k5, k6, k7, k8, k9, k10, k11, k12, k13]
def interned : List (Array UInt16 × Addr) := []
def slotsUsed : Nat := 0
def theMethod : MethodId := ⟨1, 1⟩
def args0 : Array Value := #[.int 7, .int 5, .int 1, .int 2, .int 27, .int 9]
def aboutOver (below : List Frame) : State where
  vm := { classes := classes, interned := interned.toArray }
  heap := heap
  slotsUsed := slotsUsed
  threads := #[{ frames := .invoking theMethod args0 :: below }]
def below0 : List Frame := [.native { method := ⟨0, 0⟩, args := #[] }]
def about1 : State := aboutOver below0
def p0 : Program := .bare "" "" ""
def e0 : Env := launch0.env 0 0 0
theorem w_frames : about1.frames = Frame.invoking theMethod args0 :: below0 := rfl
set_option maxRecDepth 65536 in
theorem w_args : argsFit about1.vm theMethod args0 = true := by decide +kernel
set_option maxRecDepth 65536 in
theorem w_heap : heapFits about1 = true := by decide +kernel
set_option maxRecDepth 65536 in
theorem w_runnable : about1.curStatus? = some .runnable := by decide +kernel
set_option maxRecDepth 65536 in
theorem w_alone : about1.alone = true := by decide +kernel
set_option maxRecDepth 65536 in
theorem w_named : about1.methodNamed? x = some theMethod := by decide +kernel
set_option maxRecDepth 65536 in
theorem w_hears : about1.hears theMethod below0 = true := by decide +kernel
set_option maxRecDepth 65536 in
theorem w_ripe : about1.ripe theMethod args0 below0 = true := by decide +kernel
theorem w_running : about1.status = .running := rfl
set_option maxRecDepth 65536 in
theorem w_room : about1.hasRoom e0.platform room_1 = true :=
  launch0.hasRoom_least _ room_1 (by decide +kernel) (by decide +kernel) (by decide +kernel) (by decide +kernel) (by decide +kernel) (by decide +kernel)
theorem allAtoms_all (ts : List Jvm.Cond) (a : Array Jvm.Value) (st : Jvm.State) : (allAtoms ts).before a st = ts.all (fun c => c.before a st) := by
  induction ts with
  | nil => rfl
  | cons c t ih =>
    show (Jvm.Cond.and c (allAtoms t)).before a st = _
    rw [Jvm.Cond.before_and, ih, List.all_cons]
def words1 : List Jvm.Cond := Jvm.Cond.code x code maxLocals ret :: tables_1
/-- a 'code' word, met by the world's own term for the bytes: nothing is compared byte by byte -/
theorem code_word {y : MethodName} {bytes : ByteArray} {mx : Nat} {rt : Option FieldType} {a : Array Value} {s : State} {m : MethodId} {meth : Method} {c : Code} (h1 : s.methodNamed? y = some m) (h2 : s.vm.method? m = some meth) (h3 : meth.code = some c) (h4 : c.code = bytes)
    (h5 : (c.maxLocals == mx && c.exceptionTable.isEmpty && decide (c.maxStack ≤ mostOperands) && decide (meth.sig.returnType = rt) && !meth.locks && decide (parseMethodDescriptor y.desc = some meth.sig)) = true) : (Jvm.Cond.code y bytes mx rt).before a s = true := by
  simp only [Bool.and_eq_true, beq_iff_eq, Bool.not_eq_true', decide_eq_true_eq] at h5
  obtain ⟨⟨⟨⟨⟨g1, g2⟩, g3⟩, g4⟩, g5⟩, g6⟩ := h5
  simp [Cond.before, Cond.holds, Cond.value, h1, h2, h3, h4, g1, g2, g3, g4, g5, g6]
def isCode : Jvm.Cond → Bool
  | .code _ _ _ _ => true
  | _ => false
theorem all_split {L : List Jvm.Cond} {P : Jvm.Cond → Bool} (h1 : L.all (fun c => isCode c || P c) = true) (h2 : ∀ c ∈ L.filter isCode, P c = true) : L.all P = true := by
  refine List.all_eq_true.mpr fun c hc => ?_
  have h := List.all_eq_true.mp h1 c hc
  rcases Bool.eq_false_or_eq_true (isCode c) with hi | hi
  · exact h2 c (List.mem_filter.mpr ⟨hc, hi⟩)
  · simpa [hi] using h
set_option maxRecDepth 65536 in
theorem w_c0 : (Jvm.Cond.code x code maxLocals ret).before args0 about1 = true := code_word (m := ⟨1, 1⟩) (meth := k1m1) (c := k1c1) (by decide +kernel) rfl rfl rfl (by decide +kernel)
set_option maxRecDepth 65536 in
theorem w_c1 : (Jvm.Cond.code ({ cls := "com/example/tillerfront/tillerfront/engine/Nearest", name := "<init>", desc := "(I)V" } : Jvm.MethodName) prog_21_method_1_code (2 : Nat) (Option.none : Option Jvm.ClassFile.FieldType)).before args0 about1 = true := code_word (m := ⟨2, 0⟩) (meth := k2m0) (c := k2c0) (by decide +kernel) rfl rfl rfl (by decide +kernel)
set_option maxRecDepth 65536 in
theorem w_c2 : (Jvm.Cond.code ({ cls := "java/lang/Object", name := "<init>", desc := "()V" } : Jvm.MethodName) object_method_1_code (1 : Nat) (Option.none : Option Jvm.ClassFile.FieldType)).before args0 about1 = true := code_word (m := ⟨0, 0⟩) (meth := k0m0) (c := k0c0) (by decide +kernel) rfl rfl rfl (by decide +kernel)
set_option maxRecDepth 65536 in
theorem w_c3 : (Jvm.Cond.code ({ cls := "com/example/tillerfront/tillerfront/engine/Nearest", name := "indices", desc := "()[I" } : Jvm.MethodName) prog_21_method_3_code (1 : Nat) (Option.some (Jvm.ClassFile.FieldType.array Jvm.ClassFile.FieldType.int))).before args0 about1 = true := code_word (m := ⟨2, 2⟩) (meth := k2m2) (c := k2c2) (by decide +kernel) rfl rfl rfl (by decide +kernel)
set_option maxRecDepth 65536 in
theorem w_c4 : (Jvm.Cond.code ({ cls := "java/util/Arrays", name := "copyOf", desc := "([II)[I" } : Jvm.MethodName) jdk_65_method_123_code (3 : Nat) (Option.some (Jvm.ClassFile.FieldType.array Jvm.ClassFile.FieldType.int))).before args0 about1 = true := code_word (m := ⟨3, 1⟩) (meth := k3m1) (c := k3c1) (by decide +kernel) rfl rfl rfl (by decide +kernel)
set_option maxRecDepth 65536 in
theorem w_c5 : (Jvm.Cond.code ({ cls := "java/lang/Math", name := "min", desc := "(II)I" } : Jvm.MethodName) jdk_29_method_69_code (2 : Nat) (Option.some Jvm.ClassFile.FieldType.int)).before args0 about1 = true := code_word (m := ⟨4, 1⟩) (meth := k4m1) (c := k4c1) (by decide +kernel) rfl rfl rfl (by decide +kernel)
set_option maxRecDepth 65536 in
theorem w_c6 : (Jvm.Cond.code ({ cls := "com/example/tillerfront/tillerfront/engine/NearestOfferPinLaw", name := "ok", desc := "([I[I[DIII)Z" } : Jvm.MethodName) method_3_code (7 : Nat) (Option.some Jvm.ClassFile.FieldType.boolean)).before args0 about1 = true := code_word (m := ⟨1, 2⟩) (meth := k1m2) (c := k1c2) (by decide +kernel) rfl rfl rfl (by decide +kernel)
set_option maxRecDepth 65536 in
theorem w_c7 : (Jvm.Cond.code ({ cls := "com/example/tillerfront/tillerfront/engine/Nearest", name := "offer", desc := "(ID)V" } : Jvm.MethodName) prog_21_method_2_code (6 : Nat) (Option.none : Option Jvm.ClassFile.FieldType)).before args0 about1 = true := code_word (m := ⟨2, 1⟩) (meth := k2m1) (c := k2c1) (by decide +kernel) rfl rfl rfl (by decide +kernel)
set_option maxRecDepth 65536 in
theorem w_c8 : (Jvm.Cond.code ({ cls := "com/example/tillerfront/tillerfront/engine/NearestOfferPinLaw", name := "rank", desc := "([DII)I" } : Jvm.MethodName) method_4_code (3 : Nat) (Option.some Jvm.ClassFile.FieldType.int)).before args0 about1 = true := code_word (m := ⟨1, 3⟩) (meth := k1m3) (c := k1c3) (by decide +kernel) rfl rfl rfl (by decide +kernel)
set_option maxRecDepth 65536 in
theorem w_c9 : (Jvm.Cond.code ({ cls := "com/example/tillerfront/tillerfront/engine/NearestOfferPinLaw", name := "before", desc := "([DIII)I" } : Jvm.MethodName) method_5_code (4 : Nat) (Option.some Jvm.ClassFile.FieldType.int)).before args0 about1 = true := code_word (m := ⟨1, 4⟩) (meth := k1m4) (c := k1c4) (by decide +kernel) rfl rfl rfl (by decide +kernel)
def codes1 : List Jvm.Cond := [Jvm.Cond.code x code maxLocals ret, Jvm.Cond.code ({ cls := "com/example/tillerfront/tillerfront/engine/Nearest", name := "<init>", desc := "(I)V" } : Jvm.MethodName) prog_21_method_1_code (2 : Nat) (Option.none : Option Jvm.ClassFile.FieldType), Jvm.Cond.code ({ cls := "java/lang/Object", name := "<init>", desc := "()V" } : Jvm.MethodName) object_method_1_code (1 : Nat) (Option.none : Option Jvm.ClassFile.FieldType), Jvm.Cond.code ({ cls := "com/example/tillerfront/tillerfront/engine/Nearest", name := "indices", desc := "()[I" } : Jvm.MethodName) prog_21_method_3_code (1 : Nat) (Option.some (Jvm.ClassFile.FieldType.array Jvm.ClassFile.FieldType.int)), Jvm.Cond.code ({ cls := "java/util/Arrays", name := "copyOf", desc := "([II)[I" } : Jvm.MethodName) jdk_65_method_123_code (3 : Nat) (Option.some (Jvm.ClassFile.FieldType.array Jvm.ClassFile.FieldType.int)), Jvm.Cond.code ({ cls := "java/lang/Math", name := "min", desc := "(II)I" } : Jvm.MethodName) jdk_29_method_69_code (2 : Nat) (Option.some Jvm.ClassFile.FieldType.int), Jvm.Cond.code ({ cls := "com/example/tillerfront/tillerfront/engine/NearestOfferPinLaw", name := "ok", desc := "([I[I[DIII)Z" } : Jvm.MethodName) method_3_code (7 : Nat) (Option.some Jvm.ClassFile.FieldType.boolean), Jvm.Cond.code ({ cls := "com/example/tillerfront/tillerfront/engine/Nearest", name := "offer", desc := "(ID)V" } : Jvm.MethodName) prog_21_method_2_code (6 : Nat) (Option.none : Option Jvm.ClassFile.FieldType), Jvm.Cond.code ({ cls := "com/example/tillerfront/tillerfront/engine/NearestOfferPinLaw", name := "rank", desc := "([DII)I" } : Jvm.MethodName) method_4_code (3 : Nat) (Option.some Jvm.ClassFile.FieldType.int), Jvm.Cond.code ({ cls := "com/example/tillerfront/tillerfront/engine/NearestOfferPinLaw", name := "before", desc := "([DIII)I" } : Jvm.MethodName) method_5_code (4 : Nat) (Option.some Jvm.ClassFile.FieldType.int)]
set_option maxRecDepth 65536 in
theorem codes_eq : words1.filter isCode = codes1 := rfl
theorem w_codes : ∀ c ∈ words1.filter isCode, c.before args0 about1 = true := by
  rw [codes_eq]
  intro c hc
  simp only [codes1, List.mem_cons, List.not_mem_nil, or_false] at hc
  rcases hc with rfl | rfl | rfl | rfl | rfl | rfl | rfl | rfl | rfl | rfl
  · exact w_c0
  · exact w_c1
  · exact w_c2
  · exact w_c3
  · exact w_c4
  · exact w_c5
  · exact w_c6
  · exact w_c7
  · exact w_c8
  · exact w_c9
set_option maxRecDepth 65536 in
theorem w_t1 : (words1.take 24).all (fun c => isCode c || c.before args0 about1) = true := by decide +kernel
set_option maxRecDepth 65536 in
theorem w_t2 : ((words1.drop 24).take 24).all (fun c => isCode c || c.before args0 about1) = true := by decide +kernel
set_option maxRecDepth 65536 in
theorem w_t3 : ((words1.drop 24).drop 24).all (fun c => isCode c || c.before args0 about1) = true := by decide +kernel
theorem w_tables : (allAtoms (Jvm.Cond.code x code maxLocals ret :: tables_1)).before args0 about1 = true := by
  rw [allAtoms_all]
  show words1.all (fun c => c.before args0 about1) = true
  refine all_split ?_ w_codes
  rw [← List.take_append_drop 24 words1, List.all_append, w_t1, ← List.take_append_drop 24 (words1.drop 24), List.all_append, w_t2, w_t3]
  rfl
set_option maxRecDepth 65536 in
theorem w_case : (Jvm.Cond.and given_1 narrow_1).before args0 about1 = true := by decide +kernel
theorem w_applies : (headSpec (Jvm.Cond.code x code maxLocals ret :: tables_1) room_1).applies x e0.platform about1 = true :=
  (Spec.applies_iff w_frames).mpr ⟨w_running, w_runnable, w_alone, w_named, w_hears, w_ripe, w_room, w_tables⟩
theorem atStart : AtStart classFile x code maxLocals ret World_1 tables_1 room_1 Calls_1 rest_1 Pre_1 launch0 p0 e0 about1 theMethod args0 below0 :=
  ⟨lists_1, trivial, launch0.admits_env _ _ _, launch0.least_env, fairChoices_fair.cas, fairChoices_fair.clock, w_frames, w_args, w_heap, w_applies, trivial, trivial, w_case⟩
end start1
theorem witness_1 : WitnessClaimed_1 := ⟨start1.p0, start1.e0, start1.about1, start1.theMethod, start1.args0, start1.below0, start1.atStart⟩
end Jvm.Pilot.@@N@@
