import JvmDerived
import JvmDerived.Pilot.@@N@@Statement
import JvmDerived.Pilot.@@N@@Code
set_option linter.unusedVariables false
set_option linter.unusedSimpArgs false
namespace Jvm.OwnFP
open Jvm.FP.Core
/-! own layer over the library's laws of doubles: values in units of the least double (zval), dyadic values, rounding bounds -/
abbrev zv (a : UInt64) : Int := zval b64 (val64 a)
theorem U_pos : (0 : Int) < (one64 : Int) := by have := one64_pos; omega
theorem signed_bd (s : Bool) (m : Nat) : -(m : Int) ≤ signed s m ∧ signed s m ≤ (m : Int) := by unfold signed; split <;> omega
theorem zv_bd (a : UInt64) : -(zmag b64 (val64 a) : Int) ≤ zv a ∧ zv a ≤ (zmag b64 (val64 a) : Int) := signed_bd _ _
theorem fin_between {a V W : UInt64} (hV : DFin V) (hW : DFin W) (hn : val64 a ≠ .nan) (h1 : zv W ≤ zv a) (h2 : zv a ≤ zv V) : DFin a := by
  cases hd : val64 a with
  | nan => exact absurd hd hn
  | fin s c q => exact ⟨s, c, q, hd⟩
  | inf s =>
    exfalso
    have a1 := hV.zval_lt; have a2 := hW.zval_lt
    have b1 := zv_bd V; have b2 := zv_bd W
    have e : zv a = signed s (b64.tails * 2 ^ (b64.exps - 2)) := by show zval b64 (val64 a) = _; rw [hd]; rfl
    generalize b64.tails * 2 ^ (b64.exps - 2) = TOP at a1 a2 e
    cases s
    · have : zv a = (TOP : Int) := e
      omega
    · have : zv a = -(TOP : Int) := e
      omega
theorem qmax_b64 : b64.qmax = 971 := by decide
theorem rep_exists (n : Int) (k : Nat) (hk : k ≤ 1074) (hn : n.natAbs < 2 ^ 53) : ∃ V, DFin V ∧ zv V * 2 ^ k = n * (one64 : Int) := by
  obtain ⟨c', q', h1, h2⟩ := round_exact (f := b64) good_b64 (decide (n < 0)) (c := n.natAbs) (q := -(k : Int)) hn (by rw [qmin_b64]; omega) (by rw [qmax_b64]; omega)
  have hf := round_fits good_b64 (.fin (decide (n < 0)) n.natAbs (-(k : Int)))
  have hv := val64_of64 hf
  rw [h1] at hv
  refine ⟨of64 (round b64 (.fin (decide (n < 0)) n.natAbs (-(k : Int)))), ⟨_, _, _, by rw [h1]; exact hv⟩, ?_⟩
  show zval b64 (val64 (of64 (round b64 (.fin (decide (n < 0)) n.natAbs (-(k : Int)))))) * 2 ^ k = _
  rw [h1, hv]
  show signed (decide (n < 0)) (inUnits c' q' b64.qmin) * 2 ^ k = _
  rw [h2]
  have e1 : inUnits n.natAbs (-(k : Int)) b64.qmin * 2 ^ k = n.natAbs * one64 := by
    unfold inUnits one64
    rw [qmin_b64, Nat.mul_assoc, ← Nat.pow_add]
    congr 2 <;> omega
  have e2 : signed (decide (n < 0)) (inUnits n.natAbs (-(k : Int)) b64.qmin) * ((2 ^ k : Nat) : Int) = signed (decide (n < 0)) n.natAbs * (one64 : Int) := by
    rw [← signed_mul, e1, signed_mul]
  have e3 : signed (decide (n < 0)) n.natAbs = n := by
    unfold signed
    by_cases h : n < 0
    · simp [h]; omega
    · simp [h]; omega
  rw [e3] at e2
  rw [← e2, Int.natCast_pow]; rfl
theorem rep_up (n : Int) (j : Nat) (hj : j ≤ 971) (hn : n.natAbs < 2 ^ 53) : ∃ V, DFin V ∧ zv V = n * 2 ^ j * (one64 : Int) := by
  obtain ⟨c', q', h1, h2⟩ := round_exact (f := b64) good_b64 (decide (n < 0)) (c := n.natAbs) (q := (j : Int)) hn (by rw [qmin_b64]; omega) (by rw [qmax_b64]; omega)
  have hf := round_fits good_b64 (.fin (decide (n < 0)) n.natAbs (j : Int))
  have hv := val64_of64 hf
  rw [h1] at hv
  refine ⟨of64 (round b64 (.fin (decide (n < 0)) n.natAbs (j : Int))), ⟨_, _, _, by rw [h1]; exact hv⟩, ?_⟩
  show zval b64 (val64 (of64 (round b64 (.fin (decide (n < 0)) n.natAbs (j : Int))))) = _
  rw [h1, hv]
  show signed (decide (n < 0)) (inUnits c' q' b64.qmin) = _
  rw [h2]
  have e1 : inUnits n.natAbs (j : Int) b64.qmin = n.natAbs * (2 ^ j * one64) := by
    unfold inUnits one64
    rw [qmin_b64, ← Nat.pow_add]
    congr 2 <;> omega
  have e3 : signed (decide (n < 0)) n.natAbs = n := by
    unfold signed
    by_cases h : n < 0
    · simp [h]; omega
    · simp [h]; omega
  rw [e1, signed_mul, e3, Int.natCast_mul, Int.natCast_pow, Int.mul_assoc]; rfl
/-- the double is finite and worth n / 2^k -/
def Dy (n : Int) (k : Nat) (a : UInt64) : Prop := DFin a ∧ zv a * 2 ^ k = n * (one64 : Int)
theorem two_pos (k : Nat) : (0 : Int) < 2 ^ k := Int.pow_pos (by decide)
theorem Dy.fin {n : Int} {k : Nat} {a : UInt64} (h : Dy n k a) : DFin a := h.1
theorem Dy.nn {n : Int} {k : Nat} {a : UInt64} (h : Dy n k a) : val64 a ≠ .nan := h.1.ne_nan
theorem dint_fin {i : Int} {a : UInt64} (h : DInt i a) : DFin a := by
  unfold DInt at h
  cases hd : val64 a with
  | nan => rw [hd] at h; exact h.elim
  | inf s => rw [hd] at h; exact h.elim
  | fin s c q => exact ⟨s, c, q, hd⟩
theorem Dy.of_int {i : Int} {a : UInt64} (h : DInt i a) : Dy i 0 a := ⟨dint_fin h, by rw [show zv a = i * (one64 : Int) from DInt_zval h]; simp⟩
theorem dy_i2d (a : Int32) : Dy a.toInt 0 (i2d a) := Dy.of_int (i2d_int a)
theorem dy_l2d {a : Int64} (h : a.toInt.natAbs ≤ 2 ^ 53) : Dy a.toInt 0 (l2d a) := Dy.of_int (l2d_int h)
theorem dy_zero : Dy 0 0 0 := ⟨⟨_, _, _, val64_zero⟩, by rw [show zv 0 = 0 from zval64_zero]; simp⟩
theorem dy_one : Dy 1 0 4607182418800017408 := Dy.of_int dint_one
theorem Dy.up {n : Int} {k : Nat} {a : UInt64} (h : Dy n k a) (j : Nat) : Dy (n * 2 ^ j) (k + j) a := ⟨h.1, by rw [Int.pow_add, ← Int.mul_assoc, h.2]; (generalize one64 = U; ac_rfl)⟩
theorem cancel {x y : Int} {k : Nat} (h : x * 2 ^ k = y * 2 ^ k) : x = y := Int.eq_of_mul_eq_mul_right (Int.ne_of_gt (two_pos k)) h
theorem Dy.eq {n : Int} {k : Nat} {a b : UInt64} (ha : Dy n k a) (hb : Dy n k b) : zv a = zv b := cancel (ha.2.trans hb.2.symm)
theorem val_dneg (a : UInt64) (h : val64 a ≠ .nan) : val64 (Jvm.FP.dneg a) = negate (val64 a) := by
  refine val64_neg_bits ?_
  have hx : (Jvm.FP.dneg a).toNat = a.toNat ^^^ 2 ^ 63 := by
    show (a ^^^ 0x8000000000000000).toNat = _
    rw [UInt64.toNat_xor]; rfl
  have hlt := a.toNat_lt
  by_cases hb : a.toNat < 2 ^ 63
  · right
    rw [hx, Nat.xor_comm]
    have := Nat.two_pow_add_eq_or_of_lt hb 1
    have e2 : (2 ^ 63 ^^^ a.toNat) = 2 ^ 63 + a.toNat := by
      rw [Nat.mul_one] at this
      rw [this]
      apply Nat.eq_of_testBit_eq; intro i
      simp only [Nat.testBit_xor, Nat.testBit_or, Nat.testBit_two_pow]
      by_cases q : 63 = i
      · subst q; simp [Nat.testBit_lt_two_pow hb]
      · simp [q]
    omega
  · left
    have hb' : a.toNat - 2 ^ 63 < 2 ^ 63 := by omega
    have := Nat.two_pow_add_eq_or_of_lt hb' 1
    rw [Nat.mul_one] at this
    have e0 : a.toNat = 2 ^ 63 ||| (a.toNat - 2 ^ 63) := by omega
    have e2 : a.toNat ^^^ 2 ^ 63 = a.toNat - 2 ^ 63 := by
      apply Nat.eq_of_testBit_eq; intro i
      rw [Nat.testBit_xor, Nat.testBit_two_pow]
      have t := congrArg (fun z => z.testBit i) e0
      simp only [Nat.testBit_or, Nat.testBit_two_pow] at t
      rw [t]
      by_cases q : 63 = i
      · subst q; simp [Nat.testBit_lt_two_pow hb']
      · simp [q]
    omega
theorem dneg_fin {a : UInt64} (h : DFin a) : DFin (Jvm.FP.dneg a) := by
  obtain ⟨s, c, q, e⟩ := h
  exact ⟨!s, c, q, by rw [val_dneg a (by rw [e]; exact nofun), e]; rfl⟩
theorem dneg_zv {a : UInt64} (h : val64 a ≠ .nan) : zv (Jvm.FP.dneg a) = -zv a := by
  show zval b64 (val64 (Jvm.FP.dneg a)) = _
  rw [val_dneg a h, zval_negate]
theorem dy_neg {n : Int} {k : Nat} {a : UInt64} (h : Dy n k a) : Dy (-n) k (Jvm.FP.dneg a) := ⟨dneg_fin h.1, by rw [dneg_zv h.nn, Int.neg_mul, h.2, Int.neg_mul]⟩
theorem cneg_fin {a : UInt64} (h : DFin a) : DFin (dneg a) := by
  obtain ⟨s, c, q, e⟩ := h
  exact ⟨!s, c, q, by rw [val64_dneg, e]; rfl⟩
theorem cneg_zv (a : UInt64) : zv (dneg a) = -zv a := by
  show zval b64 (val64 (dneg a)) = _
  rw [val64_dneg, zval_negate]
-- sums
theorem add_nn {a b : UInt64} (ha : DFin a) (hb : DFin b) : val64 (dadd a b) ≠ .nan := (notNaN_iff _).mp (dadd_out ha.notNaN hb)
theorem add_le {a b V : UInt64} (ha : DFin a) (hb : DFin b) (hV : val64 V ≠ .nan) (h : zv a + zv b ≤ zv V) : zv (dadd a b) ≤ zv V := by
  show zval b64 (val64 (dadd a b)) ≤ _
  rw [val64_dadd]
  exact sum_le good_b64 ha hb (val64_fits a) (val64_fits b) (val64_fits V) hV h
theorem add_ge {a b V : UInt64} (ha : DFin a) (hb : DFin b) (hV : val64 V ≠ .nan) (h : zv V ≤ zv a + zv b) : zv V ≤ zv (dadd a b) := by
  show _ ≤ zval b64 (val64 (dadd a b))
  rw [val64_dadd]
  exact sum_ge good_b64 ha hb (val64_fits a) (val64_fits b) (val64_fits V) hV h
theorem add_exact {a b V : UInt64} (ha : DFin a) (hb : DFin b) (hV : DFin V) (h : zv a + zv b = zv V) : DFin (dadd a b) ∧ zv (dadd a b) = zv V := by
  have h1 := add_le ha hb hV.ne_nan (Int.le_of_eq h)
  have h2 := add_ge ha hb hV.ne_nan (Int.le_of_eq h.symm)
  exact ⟨fin_between hV hV (add_nn ha hb) h2 h1, Int.le_antisymm h1 h2⟩
theorem dy_add {n m : Int} {k : Nat} {a b : UInt64} (ha : Dy n k a) (hb : Dy m k b) (hk : k ≤ 1074) (h : (n + m).natAbs < 2 ^ 53) : Dy (n + m) k (dadd a b) := by
  obtain ⟨V, hV, e⟩ := rep_exists (n + m) k hk h
  have q : zv a + zv b = zv V := cancel (k := k) (by rw [Int.add_mul, ha.2, hb.2, e, Int.add_mul])
  obtain ⟨h1, h2⟩ := add_exact ha.1 hb.1 hV q
  exact ⟨h1, by rw [h2]; exact e⟩
theorem dy_sub {n m : Int} {k : Nat} {a b : UInt64} (ha : Dy n k a) (hb : Dy m k b) (hk : k ≤ 1074) (h : (n - m).natAbs < 2 ^ 53) : Dy (n - m) k (dsub a b) := by
  rw [dsub_eq]
  have hb' : Dy (-m) k (dneg b) := ⟨cneg_fin hb.1, by rw [cneg_zv, Int.neg_mul, hb.2, Int.neg_mul]⟩
  have := dy_add ha hb' hk (by rw [← Int.sub_eq_add_neg]; exact h)
  rw [← Int.sub_eq_add_neg] at this; exact this
-- products
theorem mul_nn {a b : UInt64} (ha : DFin a) (hb : DFin b) : val64 (dmul a b) ≠ .nan := (notNaN_iff _).mp (dmul_out ha hb)
theorem mul_units {a b : UInt64} (ha : DFin a) (hb : DFin b) : ∃ s c q, exactProduct (val64 a) (val64 b) = .fin s c q ∧ 2 * b64.qmin ≤ q ∧ signed s (inUnits c q (2 * b64.qmin)) = zv a * zv b := by
  obtain ⟨s, c, q, ea⟩ := ha
  obtain ⟨t, d, r, eb⟩ := hb
  have fa := val64_fits a; have fb := val64_fits b
  rw [ea] at fa; rw [eb] at fb
  obtain ⟨h1, h2, h3⟩ := product_units fa fb
  refine ⟨_, _, _, by rw [ea, eb]; exact h1, h2, ?_⟩
  rw [h3, signed_xor]
  show _ = zval b64 (val64 a) * zval b64 (val64 b)
  rw [ea, eb]; rfl
theorem two_qmin : (b64.qmin - 2 * b64.qmin).toNat = (-b64.qmin).toNat := by congr 1 <;> omega
theorem mul_le {a b V : UInt64} (ha : DFin a) (hb : DFin b) (hV : val64 V ≠ .nan) (h : zv a * zv b ≤ zv V * (one64 : Int)) : zv (dmul a b) ≤ zv V := by
  obtain ⟨s, c, q, e1, e2, e3⟩ := mul_units ha hb
  show zval b64 (val64 (dmul a b)) ≤ zval b64 (val64 V)
  rw [val64_dmul, e1]
  refine zval_round_le good_b64 (val64_fits V) hV (e0 := 2 * b64.qmin) (by rw [qmin_b64]; decide) e2 ?_
  rw [e3, two_qmin, pow_qmin64]; exact h
theorem mul_ge {a b V : UInt64} (ha : DFin a) (hb : DFin b) (hV : val64 V ≠ .nan) (h : zv V * (one64 : Int) ≤ zv a * zv b) : zv V ≤ zv (dmul a b) := by
  obtain ⟨s, c, q, e1, e2, e3⟩ := mul_units ha hb
  show zval b64 (val64 V) ≤ zval b64 (val64 (dmul a b))
  rw [val64_dmul, e1]
  refine zval_round_ge good_b64 (val64_fits V) hV (e0 := 2 * b64.qmin) (by rw [qmin_b64]; decide) e2 ?_
  rw [e3, two_qmin, pow_qmin64]; exact h
theorem mul_exact {a b V : UInt64} (ha : DFin a) (hb : DFin b) (hV : DFin V) (h : zv a * zv b = zv V * (one64 : Int)) : DFin (dmul a b) ∧ zv (dmul a b) = zv V := by
  have h1 := mul_le ha hb hV.ne_nan (Int.le_of_eq h)
  have h2 := mul_ge ha hb hV.ne_nan (Int.le_of_eq h.symm)
  exact ⟨fin_between hV hV (mul_nn ha hb) h2 h1, Int.le_antisymm h1 h2⟩
theorem dy_mul {n m : Int} {k j : Nat} {a b : UInt64} (ha : Dy n k a) (hb : Dy m j b) (hk : k + j ≤ 1074) (h : (n * m).natAbs < 2 ^ 53) : Dy (n * m) (k + j) (dmul a b) := by
  obtain ⟨V, hV, e⟩ := rep_exists (n * m) (k + j) hk h
  have q : zv a * zv b = zv V * (one64 : Int) := cancel (k := k + j) (by
    have : zv a * zv b * 2 ^ (k + j) = (zv a * 2 ^ k) * (zv b * 2 ^ j) := by rw [Int.pow_add]; (generalize one64 = U; ac_rfl)
    rw [this, ha.2, hb.2, show zv V * (one64 : Int) * 2 ^ (k + j) = zv V * 2 ^ (k + j) * (one64 : Int) by (generalize one64 = U; ac_rfl), e]; (generalize one64 = U; ac_rfl))
  obtain ⟨h1, h2⟩ := mul_exact ha.1 hb.1 hV q
  exact ⟨h1, by rw [h2]; exact e⟩
-- quotients
theorem nz_of {b : UInt64} (hb : DFin b) (h : zv b ≠ 0) : ¬ DZero b := fun q => h q.zval
theorem div_nn {a b : UInt64} (ha : DFin a) (hb : DFin b) (h : zv b ≠ 0) : val64 (ddiv a b) ≠ .nan := (notNaN_iff _).mp (ddiv_out ha.notNaN hb (nz_of hb h))
theorem div_pows {q r e0 : Int} (hq : b64.qmin ≤ q) (hr : b64.qmin ≤ r) (h0 : e0 ≤ b64.qmin) (h1 : e0 ≤ q - r) :
    2 ^ (q - r - e0).toNat * 2 ^ (r - b64.qmin).toNat = 2 ^ (q - b64.qmin).toNat * one64 * 2 ^ (b64.qmin - e0).toNat := by
  unfold one64
  rw [← Nat.pow_add, ← Nat.pow_add, ← Nat.pow_add]
  rw [qmin_b64] at *
  congr 1 <;> omega
theorem div_val {a b : UInt64} {s t : Bool} {c d : Nat} {q r : Int} (ea : val64 a = .fin s c q) (eb : val64 b = .fin t d r) (hd : d ≠ 0) : val64 (ddiv a b) = roundRatio b64 (s != t) c d (q - r) := by
  rw [val64_ddiv, ea, eb]
  simp [quotient, hd]
theorem div_mag_le {a b V : UInt64} (ha : DFin a) (hb : DFin b) (hz : zmag b64 (val64 b) ≠ 0) (hV : val64 V ≠ .nan) (h : zmag b64 (val64 a) * one64 ≤ zmag b64 (val64 V) * zmag b64 (val64 b)) : zmag b64 (val64 (ddiv a b)) ≤ zmag b64 (val64 V) := by
  obtain ⟨s, c, q, ea⟩ := ha
  obtain ⟨t, d, r, eb⟩ := hb
  have fa := val64_fits a; have fb := val64_fits b
  rw [ea] at fa; rw [eb] at fb
  have za : zmag b64 (val64 a) = c * 2 ^ (q - b64.qmin).toNat := by rw [ea]; rfl
  have zb : zmag b64 (val64 b) = d * 2 ^ (r - b64.qmin).toNat := by rw [eb]; rfl
  have hd : d ≠ 0 := fun q => hz (by rw [zb, q, Nat.zero_mul])
  rw [div_val ea eb hd]
  have hp := div_pows (e0 := min b64.qmin (q - r)) fa.2.1 fb.2.1 (by omega) (by omega)
  refine zmag_roundRatio_le good_b64 (Nat.pos_of_ne_zero hd) (val64_fits V) hV (e0 := min b64.qmin (q - r)) (by omega) (by omega) ?_
  rw [za, zb] at h
  generalize zmag b64 (val64 V) = v at h ⊢
  unfold inUnits
  refine Nat.le_of_mul_le_mul_right (c := 2 ^ (r - b64.qmin).toNat) ?_ (Nat.two_pow_pos _)
  rw [Nat.mul_assoc, hp]
  have := Nat.mul_le_mul_right (2 ^ (b64.qmin - min b64.qmin (q - r)).toNat) h
  calc c * (2 ^ (q - b64.qmin).toNat * one64 * 2 ^ (b64.qmin - min b64.qmin (q - r)).toNat) = c * 2 ^ (q - b64.qmin).toNat * one64 * 2 ^ (b64.qmin - min b64.qmin (q - r)).toNat := by (generalize one64 = U; ac_rfl)
    _ ≤ _ := this
    _ = v * 2 ^ (b64.qmin - min b64.qmin (q - r)).toNat * d * 2 ^ (r - b64.qmin).toNat := by (generalize one64 = U; ac_rfl)
theorem div_mag_ge {a b V : UInt64} (ha : DFin a) (hb : DFin b) (hz : zmag b64 (val64 b) ≠ 0) (hV : val64 V ≠ .nan) (h : zmag b64 (val64 V) * zmag b64 (val64 b) ≤ zmag b64 (val64 a) * one64) : zmag b64 (val64 V) ≤ zmag b64 (val64 (ddiv a b)) := by
  obtain ⟨s, c, q, ea⟩ := ha
  obtain ⟨t, d, r, eb⟩ := hb
  have fa := val64_fits a; have fb := val64_fits b
  rw [ea] at fa; rw [eb] at fb
  have za : zmag b64 (val64 a) = c * 2 ^ (q - b64.qmin).toNat := by rw [ea]; rfl
  have zb : zmag b64 (val64 b) = d * 2 ^ (r - b64.qmin).toNat := by rw [eb]; rfl
  have hd : d ≠ 0 := fun q => hz (by rw [zb, q, Nat.zero_mul])
  rw [div_val ea eb hd]
  have hp := div_pows (e0 := min b64.qmin (q - r)) fa.2.1 fb.2.1 (by omega) (by omega)
  refine zmag_roundRatio_ge good_b64 (Nat.pos_of_ne_zero hd) (val64_fits V) (e0 := min b64.qmin (q - r)) (by omega) (by omega) ?_
  rw [za, zb] at h
  generalize zmag b64 (val64 V) = v at h ⊢
  unfold inUnits
  refine Nat.le_of_mul_le_mul_right (c := 2 ^ (r - b64.qmin).toNat) ?_ (Nat.two_pow_pos _)
  rw [Nat.mul_assoc c, hp]
  have := Nat.mul_le_mul_right (2 ^ (b64.qmin - min b64.qmin (q - r)).toNat) h
  calc v * 2 ^ (b64.qmin - min b64.qmin (q - r)).toNat * d * 2 ^ (r - b64.qmin).toNat = v * (d * 2 ^ (r - b64.qmin).toNat) * 2 ^ (b64.qmin - min b64.qmin (q - r)).toNat := by (generalize one64 = U; ac_rfl)
    _ ≤ _ := this
    _ = c * (2 ^ (q - b64.qmin).toNat * one64 * 2 ^ (b64.qmin - min b64.qmin (q - r)).toNat) := by (generalize one64 = U; ac_rfl)
theorem div_sgn {a b : UInt64} (ha : DFin a) (hb : DFin b) (hz : zmag b64 (val64 b) ≠ 0) : sgn (val64 (ddiv a b)) = (sgn (val64 a) != sgn (val64 b)) := by
  obtain ⟨s, c, q, ea⟩ := ha
  obtain ⟨t, d, r, eb⟩ := hb
  have zb : zmag b64 (val64 b) = d * 2 ^ (r - b64.qmin).toNat := by rw [eb]; rfl
  have hd : d ≠ 0 := fun q => hz (by rw [zb, q, Nat.zero_mul])
  rw [div_val ea eb hd, sgn_roundRatio, ea, eb]; rfl
theorem zv_cases (a : UInt64) : (sgn (val64 a) = false ∧ zv a = (zmag b64 (val64 a) : Int)) ∨ (sgn (val64 a) = true ∧ zv a = -(zmag b64 (val64 a) : Int)) := by
  show (_ ∧ signed _ _ = _) ∨ (_ ∧ signed _ _ = _)
  cases sgn (val64 a) <;> simp [signed]
theorem nat_mul_le {a b c d : Nat} (h : (a : Int) * (b : Int) ≤ (c : Int) * (d : Int)) : a * b ≤ c * d := by
  rw [← Int.natCast_mul, ← Int.natCast_mul] at h; exact Int.ofNat_le.mp h
theorem div_le {a b V : UInt64} (ha : DFin a) (hb : DFin b) (hp : 0 < zv b) (hV : val64 V ≠ .nan) (h : zv a * (one64 : Int) ≤ zv V * zv b) : zv (ddiv a b) ≤ zv V := by
  have ub := zv_bd b
  have hz : zmag b64 (val64 b) ≠ 0 := by omega
  have eb : sgn (val64 b) = false ∧ zv b = (zmag b64 (val64 b) : Int) := by rcases zv_cases b with q | q; exact q; omega
  have es := div_sgn ha hb hz
  rw [eb.1] at es
  have hU := U_pos
  rcases zv_cases a with ⟨sa, ea⟩ | ⟨sa, ea⟩ <;> rw [sa] at es
  · have er : zv (ddiv a b) = (zmag b64 (val64 (ddiv a b)) : Int) := by rcases zv_cases (ddiv a b) with q | q; exact q.2; rw [q.1] at es; cases es
    rcases zv_cases V with ⟨sv, ev⟩ | ⟨sv, ev⟩
    · have := div_mag_le ha hb hz hV (nat_mul_le (by rw [← ea, ← ev, ← eb.2]; exact h))
      omega
    · have h0 : 0 ≤ zv a * (one64 : Int) := Int.mul_nonneg (by omega) (by omega)
      have h1 : 0 ≤ zv V * zv b := Int.le_trans h0 h
      have h2 : zv V = 0 := by
        by_cases q : zv V < 0
        · have := Int.mul_neg_of_neg_of_pos q hp; omega
        · omega
      have h3 : zmag b64 (val64 V) = 0 := by omega
      rw [h2, Int.zero_mul] at h
      have h5 : zmag b64 (val64 a) * one64 ≤ zmag b64 (val64 V) * zmag b64 (val64 b) := nat_mul_le (by rw [← ea, h3]; simpa using h)
      have := div_mag_le ha hb hz hV h5
      omega
  · have er : zv (ddiv a b) = -(zmag b64 (val64 (ddiv a b)) : Int) := by rcases zv_cases (ddiv a b) with q | q; rw [q.1] at es; cases es; exact q.2
    rcases zv_cases V with ⟨sv, ev⟩ | ⟨sv, ev⟩
    · omega
    · have := div_mag_ge ha hb hz hV (nat_mul_le (by
        have : zv V * zv b = -((zmag b64 (val64 V) : Int) * (zmag b64 (val64 b) : Int)) := by rw [ev, eb.2, Int.neg_mul]
        have h6 : zv a * (one64 : Int) = -((zmag b64 (val64 a) : Int) * (one64 : Int)) := by rw [ea, Int.neg_mul]
        omega))
      omega
theorem div_ge {a b V : UInt64} (ha : DFin a) (hb : DFin b) (hp : 0 < zv b) (hV : val64 V ≠ .nan) (h : zv V * zv b ≤ zv a * (one64 : Int)) : zv V ≤ zv (ddiv a b) := by
  have ub := zv_bd b
  have hz : zmag b64 (val64 b) ≠ 0 := by omega
  have eb : sgn (val64 b) = false ∧ zv b = (zmag b64 (val64 b) : Int) := by rcases zv_cases b with q | q; exact q; omega
  have es := div_sgn ha hb hz
  rw [eb.1] at es
  have hU := U_pos
  rcases zv_cases a with ⟨sa, ea⟩ | ⟨sa, ea⟩ <;> rw [sa] at es
  · have er : zv (ddiv a b) = (zmag b64 (val64 (ddiv a b)) : Int) := by rcases zv_cases (ddiv a b) with q | q; exact q.2; rw [q.1] at es; cases es
    rcases zv_cases V with ⟨sv, ev⟩ | ⟨sv, ev⟩
    · have := div_mag_ge ha hb hz hV (nat_mul_le (by rw [← ea, ← ev, ← eb.2]; exact h))
      omega
    · omega
  · have er : zv (ddiv a b) = -(zmag b64 (val64 (ddiv a b)) : Int) := by rcases zv_cases (ddiv a b) with q | q; rw [q.1] at es; cases es; exact q.2
    rcases zv_cases V with ⟨sv, ev⟩ | ⟨sv, ev⟩
    · have h0 : zv a * (one64 : Int) ≤ 0 := Int.mul_nonpos_of_nonpos_of_nonneg (by omega) (by omega)
      have h1 : zv V * zv b ≤ 0 := Int.le_trans h h0
      have h2 : zv V = 0 := by
        by_cases q : 0 < zv V
        · have := Int.mul_pos q hp; omega
        · omega
      have h3 : zmag b64 (val64 V) = 0 := by omega
      rw [h2, Int.zero_mul] at h
      have h4 : (zmag b64 (val64 a) : Int) * (one64 : Int) = -(zv a * (one64 : Int)) := by rw [ea, Int.neg_mul, Int.neg_neg]
      have h5 : zmag b64 (val64 a) * one64 ≤ zmag b64 (val64 V) * zmag b64 (val64 b) := nat_mul_le (by rw [h4, h3]; simp; omega)
      have := div_mag_le ha hb hz hV h5
      omega
    · have := div_mag_le ha hb hz hV (nat_mul_le (by
        have : zv V * zv b = -((zmag b64 (val64 V) : Int) * (zmag b64 (val64 b) : Int)) := by rw [ev, eb.2, Int.neg_mul]
        have h6 : zv a * (one64 : Int) = -((zmag b64 (val64 a) : Int) * (one64 : Int)) := by rw [ea, Int.neg_mul]
        omega))
      omega
theorem Dy.pos {m : Int} {j : Nat} {b : UInt64} (hb : Dy m j b) (hm : 0 < m) : 0 < zv b := by
  have h1 : 0 < zv b * 2 ^ j := by rw [hb.2]; exact Int.mul_pos hm U_pos
  exact Int.pos_of_mul_pos_left h1 (two_pos j)
theorem div_le_dy {n m q : Int} {k j i : Nat} {a b : UInt64} (ha : Dy n k a) (hb : Dy m j b) (hm : 0 < m) (hi : i ≤ 1074) (hq : q.natAbs < 2 ^ 53) (h : n * 2 ^ j * 2 ^ i ≤ q * m * 2 ^ k) : zv (ddiv a b) * 2 ^ i ≤ q * (one64 : Int) := by
  obtain ⟨V, hV, e⟩ := rep_exists q i hi hq
  rw [← e]
  refine Int.mul_le_mul_of_nonneg_right (div_le ha.1 hb.1 (hb.pos hm) hV.ne_nan ?_) (Int.le_of_lt (two_pos i))
  have hU := U_pos
  refine Int.le_of_mul_le_mul_right (a := 2 ^ k * 2 ^ j * 2 ^ i) ?_ (Int.mul_pos (Int.mul_pos (two_pos k) (two_pos j)) (two_pos i))
  have e1 : zv a * (one64 : Int) * (2 ^ k * 2 ^ j * 2 ^ i) = n * 2 ^ j * 2 ^ i * ((one64 : Int) * (one64 : Int)) := by
    rw [show zv a * (one64 : Int) * (2 ^ k * 2 ^ j * 2 ^ i) = zv a * 2 ^ k * ((one64 : Int) * 2 ^ j * 2 ^ i) by (generalize one64 = U; ac_rfl), ha.2]; (generalize one64 = U; ac_rfl)
  have e2 : zv V * zv b * (2 ^ k * 2 ^ j * 2 ^ i) = q * m * 2 ^ k * ((one64 : Int) * (one64 : Int)) := by
    rw [show zv V * zv b * (2 ^ k * 2 ^ j * 2 ^ i) = (zv V * 2 ^ i) * (zv b * 2 ^ j) * 2 ^ k by (generalize one64 = U; ac_rfl), e, hb.2]; (generalize one64 = U; ac_rfl)
  rw [e1, e2]
  exact Int.mul_le_mul_of_nonneg_right h (Int.le_of_lt (Int.mul_pos hU hU))
theorem div_ge_dy {n m q : Int} {k j i : Nat} {a b : UInt64} (ha : Dy n k a) (hb : Dy m j b) (hm : 0 < m) (hi : i ≤ 1074) (hq : q.natAbs < 2 ^ 53) (h : q * m * 2 ^ k ≤ n * 2 ^ j * 2 ^ i) : q * (one64 : Int) ≤ zv (ddiv a b) * 2 ^ i := by
  obtain ⟨V, hV, e⟩ := rep_exists q i hi hq
  rw [← e]
  refine Int.mul_le_mul_of_nonneg_right (div_ge ha.1 hb.1 (hb.pos hm) hV.ne_nan ?_) (Int.le_of_lt (two_pos i))
  have hU := U_pos
  refine Int.le_of_mul_le_mul_right (a := 2 ^ k * 2 ^ j * 2 ^ i) ?_ (Int.mul_pos (Int.mul_pos (two_pos k) (two_pos j)) (two_pos i))
  have e1 : zv a * (one64 : Int) * (2 ^ k * 2 ^ j * 2 ^ i) = n * 2 ^ j * 2 ^ i * ((one64 : Int) * (one64 : Int)) := by
    rw [show zv a * (one64 : Int) * (2 ^ k * 2 ^ j * 2 ^ i) = zv a * 2 ^ k * ((one64 : Int) * 2 ^ j * 2 ^ i) by (generalize one64 = U; ac_rfl), ha.2]; (generalize one64 = U; ac_rfl)
  have e2 : zv V * zv b * (2 ^ k * 2 ^ j * 2 ^ i) = q * m * 2 ^ k * ((one64 : Int) * (one64 : Int)) := by
    rw [show zv V * zv b * (2 ^ k * 2 ^ j * 2 ^ i) = (zv V * 2 ^ i) * (zv b * 2 ^ j) * 2 ^ k by (generalize one64 = U; ac_rfl), e, hb.2]; (generalize one64 = U; ac_rfl)
  rw [e1, e2]
  exact Int.mul_le_mul_of_nonneg_right h (Int.le_of_lt (Int.mul_pos hU hU))
theorem dy_div {n m q : Int} {k j i : Nat} {a b : UInt64} (ha : Dy n k a) (hb : Dy m j b) (hm : 0 < m) (hi : i ≤ 1074) (hq : q.natAbs < 2 ^ 53) (h : n * 2 ^ j * 2 ^ i = q * m * 2 ^ k) : Dy q i (ddiv a b) := by
  have h1 := div_le_dy ha hb hm hi hq (Int.le_of_eq h)
  have h2 := div_ge_dy ha hb hm hi hq (Int.le_of_eq h.symm)
  have h3 := Int.le_antisymm h1 h2
  obtain ⟨V, hV, e⟩ := rep_exists q i hi hq
  have h4 : zv (ddiv a b) = zv V := cancel (h3.trans e.symm)
  exact ⟨fin_between hV hV (div_nn ha.1 hb.1 (Int.ne_of_gt (hb.pos hm))) (Int.le_of_eq h4.symm) (Int.le_of_eq h4), h3⟩
-- comparisons
theorem cmp_dy {n m : Int} {k j : Nat} {a b : UInt64} (ha : Dy n k a) (hb : Dy m j b) : Jvm.FP.dcmp a b = some (compare (n * 2 ^ j) (m * 2 ^ k)) := by
  show dcmp a b = _
  rw [dcmp_zval ha.nn hb.nn]
  congr 1
  have hU := U_pos
  have e1 : zv a * (2 ^ k * 2 ^ j) = n * 2 ^ j * (one64 : Int) := by rw [← Int.mul_assoc, ha.2]; (generalize one64 = U; ac_rfl)
  have e2 : zv b * (2 ^ k * 2 ^ j) = m * 2 ^ k * (one64 : Int) := by rw [show zv b * (2 ^ k * 2 ^ j) = zv b * 2 ^ j * 2 ^ k by (generalize one64 = U; ac_rfl), hb.2]; (generalize one64 = U; ac_rfl)
  rw [← compare_mul_pos (zv a) (zv b) (2 ^ k * 2 ^ j) (Int.mul_pos (two_pos k) (two_pos j)), e1, e2, compare_mul_pos _ _ _ hU]
theorem cmp_dy0 {n m : Int} {k : Nat} {a b : UInt64} (ha : Dy n k a) (hb : Dy m k b) : Jvm.FP.dcmp a b = some (compare n m) := by
  rw [cmp_dy ha hb, compare_mul_pos _ _ _ (two_pos k)]
theorem cmp_lt {a b : UInt64} (ha : val64 a ≠ .nan) (hb : val64 b ≠ .nan) (h : zv a < zv b) : Jvm.FP.dcmp a b = some .lt := dcmp_lt.mpr ⟨ha, hb, h⟩
theorem cmp_eq {a b : UInt64} (ha : val64 a ≠ .nan) (hb : val64 b ≠ .nan) (h : zv a = zv b) : Jvm.FP.dcmp a b = some .eq := dcmp_eq.mpr ⟨ha, hb, h⟩
theorem cmp_gt {a b : UInt64} (ha : val64 a ≠ .nan) (hb : val64 b ≠ .nan) (h : zv b < zv a) : Jvm.FP.dcmp a b = some .gt := dcmp_gt.mpr ⟨ha, hb, h⟩
open Jvm.Op in
theorem cv_lt_g (r : Option Ordering) : cmpValue r .g < 0 ↔ r = some .lt := by rcases r with _ | (_ | _ | _) <;> decide
open Jvm.Op in
theorem cv_lt_l (r : Option Ordering) : cmpValue r .l < 0 ↔ r = some .lt ∨ r = none := by rcases r with _ | (_ | _ | _) <;> decide
open Jvm.Op in
theorem cv_gt_g (r : Option Ordering) : 0 < cmpValue r .g ↔ r = some .gt ∨ r = none := by rcases r with _ | (_ | _ | _) <;> decide
open Jvm.Op in
theorem cv_gt_l (r : Option Ordering) : 0 < cmpValue r .l ↔ r = some .gt := by rcases r with _ | (_ | _ | _) <;> decide
open Jvm.Op in
theorem cv_eq (r : Option Ordering) (o : Jvm.ClassFile.CmpOp) : cmpValue r o = 0 ↔ r = some .eq := by cases o <;> rcases r with _ | (_ | _ | _) <;> decide
theorem nn64 {a : UInt64} (h : DFin a) : Jvm.Free.Fl.NoNaN64 a := Jvm.Free.Fl.val64_no.mpr h.ne_nan
theorem nnv {a : UInt64} (h : val64 a ≠ .nan) : Jvm.Free.Fl.NoNaN64 a := Jvm.Free.Fl.val64_no.mpr h
theorem nn_v {a : UInt64} (h : Jvm.Free.Fl.NoNaN64 a) : val64 a ≠ .nan := Jvm.Free.Fl.val64_no.mp h
end Jvm.OwnFP
namespace Jvm.OwnKit
open Jvm Jvm.ClassFile Sem Op Lib Jvm.Free Jvm.Stand Jvm.LawKit Jvm.RoadKit
theorem eqF_int {Z : State} {args : Array Value} {t : Term} {C n d : String} {x : Addr} {k : Int32} (ev : t.eval args Z none [] Z = some (.ref x)) (h : (Jvm.Cond.eq (Term.field t C n d) (Term.int k)).value args Z none Z [] = some true) : Fld Z Z.heap x C n d (.int k) := by
  obtain ⟨u, w, h1, h2, -, h4⟩ := cmp_v (Or.inl h)
  have e2 : (Term.int k).eval args Z none [] Z = some (.int k) := Term.int_eval k
  cases e2.symm.trans h2
  obtain ⟨z, rfl⟩ := h4
  have hz : z = k := by simpa [Cond.value, h1, e2] using h
  subst hz
  exact Fld.start (by rw [← fld_at ev]; exact h1)
theorem eqF_dbl {Z : State} {args : Array Value} {t : Term} {C n d : String} {x : Addr} {k : Int64} {b : UInt64} (ev : t.eval args Z none [] Z = some (.ref x)) (h : (Jvm.Cond.eq (Term.field t C n d) (Term.op1 Jvm.Unary.bitsD (Term.long k))).value args Z none Z [] = some true) (hb : k.toUInt64 = b) : Fld Z Z.heap x C n d (.double b) := by
  obtain ⟨u, w, h1, h2, -, h4⟩ := cmp_v (Or.inl h)
  have e2 : (Term.op1 Jvm.Unary.bitsD (Term.long k)).eval args Z none [] Z = some (.double k.toUInt64) := by simp [Term.eval, Jvm.Unary.apply]
  cases e2.symm.trans h2
  obtain ⟨z, rfl⟩ := h4
  have hz : z = k.toUInt64 := by simpa [Cond.value, h1, e2] using h
  subst hz; subst hb
  exact Fld.start (by rw [← fld_at ev]; exact h1)
theorem eqS_int {Z : State} {args : Array Value} {C n d : String} {k : Int32} (h : (Jvm.Cond.eq (Term.static C n d) (Term.int k)).value args Z none Z [] = some true) : (Term.static C n d).eval args Z none [] Z = some (.int k) := by
  obtain ⟨u, w, h1, h2, -, h4⟩ := cmp_v (Or.inl h)
  have e2 : (Term.int k).eval args Z none [] Z = some (.int k) := Term.int_eval k
  cases e2.symm.trans h2
  obtain ⟨z, rfl⟩ := h4
  have hz : z = k := by simpa [Cond.value, h1, e2] using h
  subst hz
  exact h1
theorem staKeep {Z : State} {h h' : Heap} {C n d : String} {v : Value} {ws : List Addr} (F : Sta Z h C n d v) (K : Keep h h' ws) (q : ∀ x ∈ ws, ∃ c : Cell, h[x]? = some c ∧ c.vm.isStatics = false) : Sta Z h' C n d v := by
  obtain ⟨cf, i, k, f, st, cell, h1, h2, h3, h4, h5, h6, h7⟩ := F
  refine ⟨cf, i, k, f, st, cell, h1, h2, h3, h4, K.2.1 st cell h5 fun hm => ?_, h6, h7⟩
  obtain ⟨c, e1, e2⟩ := q st hm
  cases h5.symm.trans e1
  rw [e2] at h6; cases h6
theorem exaSt {Z : State} {h : Heap} {a : Addr} {C : String} (F : Exa Z h a C) : ∃ c : Cell, h[a]? = some c ∧ c.vm.isStatics = false := by
  obtain ⟨c, _, h1, -, -, h4, -⟩ := F; exact ⟨c, h1, h4⟩
theorem arvSt {Z : State} {h : Heap} {a : Addr} {k : ClassId} {ty : FieldType} {z : Int32} {vs : List Value} {dv : Value} (F : Arv Z h a k ty z vs dv) : ∃ c : Cell, h[a]? = some c ∧ c.vm.isStatics = false := by
  obtain ⟨c, A, -⟩ := F; exact ⟨c, A.1, A.plain⟩
theorem narB0 : nar .boolean 0 = 0 := by decide
theorem narB1 : nar .boolean 1 = 1 := by decide
end Jvm.OwnKit
namespace Jvm.OwnFP
open Jvm.FP.Core Jvm.RoadKit
/-! java.lang.Math.round's bits -/
theorem bt_bits (d : UInt64) : d.toInt64.toBitVec.toNat = d.toNat := rfl
theorem bt_toInt (d : UInt64) : d.toInt64.toInt = if d.toNat < 2 ^ 63 then (d.toNat : Int) else (d.toNat : Int) - 2 ^ 64 := by
  show d.toInt64.toBitVec.toInt = _
  rw [BitVec.toInt_eq_toNat_cond, bt_bits]
  by_cases h : d.toNat < 2 ^ 63
  · rw [if_pos h, if_pos (by omega)]
  · rw [if_neg h, if_neg (by omega)]; rfl
theorem bt_tail (d : UInt64) : (d.toInt64 &&& (4503599627370495 : Int64)).toInt = ((d.toNat % 2 ^ 52 : Nat) : Int) := by
  rw [c_maskL d.toInt64 4503599627370495 52 (by decide) (by decide), bt_toInt]
  have h := d.toNat_lt
  split <;> omega
theorem bt_exp (d : UInt64) : ((d.toInt64 &&& (9218868437227405312 : Int64)) >>> ((52 : Int32) &&& 0x3f).toInt64).toInt = ((d.toNat / 2 ^ 52 % 2048 : Nat) : Int) := by
  rw [c_lshr _ 52 52 (by decide)]
  have e : (d.toInt64 &&& (9218868437227405312 : Int64)).toBitVec.toNat = d.toNat &&& 9218868437227405312 := by
    show (d.toInt64.toBitVec &&& (9218868437227405312 : Int64).toBitVec).toNat = _
    rw [BitVec.toNat_and, bt_bits]; rfl
  have le : d.toNat &&& 9218868437227405312 ≤ 9218868437227405312 := Nat.and_le_right
  have q : (d.toNat &&& 9218868437227405312) / 2 ^ 52 = d.toNat / 2 ^ 52 % 2048 := by
    rw [← Nat.shiftRight_eq_div_pow, Nat.shiftRight_and_distrib, Nat.shiftRight_eq_div_pow, show 9218868437227405312 >>> 52 = 2 ^ 11 - 1 by decide, Nat.and_two_pow_sub_one_eq_mod]
  have t : (d.toInt64 &&& (9218868437227405312 : Int64)).toInt = ((d.toNat &&& 9218868437227405312 : Nat) : Int) := by
    show (d.toInt64 &&& (9218868437227405312 : Int64)).toBitVec.toInt = _
    rw [BitVec.toInt_eq_toNat_cond, e, if_pos (by omega)]
  rw [t, ← q]
  generalize d.toNat &&& 9218868437227405312 = y
  omega
theorem dec_bits (d : UInt64) : val64 d = if d.toNat / 2 ^ 52 % 2048 = 2047 then (if d.toNat % 2 ^ 52 = 0 then .inf (fieldS b64 d.toNat) else .nan) else if d.toNat / 2 ^ 52 % 2048 = 0 then .fin (fieldS b64 d.toNat) (d.toNat % 2 ^ 52) b64.qmin else .fin (fieldS b64 d.toNat) (2 ^ 52 + d.toNat % 2 ^ 52) (b64.qmin + (((d.toNat / 2 ^ 52 % 2048 : Nat) : Int) - 1)) := by
  show decode b64 d.toNat = _
  unfold decode fieldE fieldT
  rw [show b64.tails = 2 ^ 52 by decide, show b64.exps = 2048 by decide]
theorem sgn_bits63 (d : UInt64) : fieldS b64 d.toNat = decide (d.toInt64.toInt < 0) := by
  unfold fieldS
  rw [show b64.tails = 2 ^ 52 by decide, show b64.exps = 2048 by decide, bt_toInt]
  have h := d.toNat_lt
  by_cases q : d.toNat < 2 ^ 63
  · rw [if_pos q, show d.toNat / 2 ^ 52 / 2048 % 2 = 0 by omega, decide_eq_false (by omega)]; rfl
  · rw [if_neg q, show d.toNat / 2 ^ 52 / 2048 % 2 = 1 by omega, decide_eq_true (by omega)]; rfl
/-- what a double worth n / 1024 looks like -/
theorem rnd_shape {n : Int} {d : UInt64} (h : Dy n 10 d) (hn : n.natAbs < 2 ^ 52) :
    (n = 0 ∧ d.toNat / 2 ^ 52 % 2048 = 0 ∧ val64 d = .fin (fieldS b64 d.toNat) 0 b64.qmin) ∨
    (∃ k : Nat, 10 ≤ k ∧ k ≤ 61 ∧ d.toNat / 2 ^ 52 % 2048 = 1074 - k ∧ 2 ^ 52 + d.toNat % 2 ^ 52 = n.natAbs * 2 ^ (k - 9) ∧ decide (n < 0) = decide (d.toInt64.toInt < 0)) := by
  obtain ⟨⟨s, c, q, e⟩, hz⟩ := h
  have hd := dec_bits d
  have hE : d.toNat / 2 ^ 52 % 2048 < 2048 := Nat.mod_lt _ (by decide)
  have hT : d.toNat % 2 ^ 52 < 2 ^ 52 := Nat.mod_lt _ (by decide)
  generalize hEE : d.toNat / 2 ^ 52 % 2048 = E at hd hE ⊢
  generalize hTT : d.toNat % 2 ^ 52 = T at hd hT ⊢
  have zabs : (zv d).natAbs * 2 ^ 10 = n.natAbs * 2 ^ 1074 := by
    have := congrArg Int.natAbs hz
    rw [Int.natAbs_mul, Int.natAbs_mul] at this
    exact this
  by_cases h1 : E = 2047
  · rw [if_pos h1, e] at hd; split at hd <;> cases hd
  rw [if_neg h1] at hd
  by_cases h2 : E = 0
  · left
    rw [if_pos h2] at hd
    have za : (zv d).natAbs = T := by
      show (signed (sgn (val64 d)) (zmag b64 (val64 d))).natAbs = T
      rw [natAbs_signed, hd]
      show T * 2 ^ (b64.qmin - b64.qmin).toNat = T
      rw [Int.sub_self]; simp
    rw [za] at zabs
    have n0 : n.natAbs = 0 := by
      rcases Nat.eq_zero_or_pos n.natAbs with z | z
      · exact z
      · exfalso
        have : 2 ^ 1074 ≤ n.natAbs * 2 ^ 1074 := Nat.le_mul_of_pos_left _ z
        rw [← zabs, show (1074 : Nat) = 62 + 1012 by rfl, Nat.pow_add] at this
        have p : 1 ≤ 2 ^ 1012 := Nat.two_pow_pos _
        have : 2 ^ 62 * 1 ≤ 2 ^ 62 * 2 ^ 1012 := Nat.mul_le_mul_left _ p
        omega
    rw [n0, Nat.zero_mul] at zabs
    have T0 : T = 0 := by omega
    exact ⟨by omega, h2, by rw [hd, T0]⟩
  · right
    rw [if_neg h2] at hd
    have za : (zv d).natAbs = (2 ^ 52 + T) * 2 ^ (E - 1) := by
      show (signed (sgn (val64 d)) (zmag b64 (val64 d))).natAbs = _
      rw [natAbs_signed, hd]
      show (2 ^ 52 + T) * 2 ^ (b64.qmin + ((E : Int) - 1) - b64.qmin).toNat = _
      rw [show (b64.qmin + ((E : Int) - 1) - b64.qmin).toNat = E - 1 by omega]
    have sg : decide (n < 0) = decide (d.toInt64.toInt < 0) := by
      rw [← sgn_bits63]
      have zc : zv d = signed (fieldS b64 d.toNat) ((2 ^ 52 + T) * 2 ^ (E - 1)) := by
        show signed (sgn (val64 d)) (zmag b64 (val64 d)) = _
        rw [hd]
        show signed (fieldS b64 d.toNat) ((2 ^ 52 + T) * 2 ^ (b64.qmin + ((E : Int) - 1) - b64.qmin).toNat) = _
        rw [show (b64.qmin + ((E : Int) - 1) - b64.qmin).toNat = E - 1 by omega]
      have pp : 0 < (2 ^ 52 + T) * 2 ^ (E - 1) := Nat.mul_pos (by omega) (Nat.two_pow_pos _)
      have hU := U_pos
      generalize (2 ^ 52 + T) * 2 ^ (E - 1) = M at zc pp
      cases hs : fieldS b64 d.toNat
      · rw [hs] at zc
        have z1 : 0 < zv d := by rw [zc]; show (0 : Int) < (M : Int); omega
        have : 0 < n * (one64 : Int) := by rw [← hz]; exact Int.mul_pos z1 (two_pos 10)
        have : 0 < n := Int.pos_of_mul_pos_left this hU
        rw [decide_eq_false (by omega)]
      · rw [hs] at zc
        have z1 : zv d < 0 := by rw [zc]; show -(M : Int) < 0; omega
        have z2 : n * (one64 : Int) < 0 := by rw [← hz]; exact Int.mul_neg_of_neg_of_pos z1 (two_pos 10)
        have : n < 0 := by
          by_cases q : n < 0
          · exact q
          · have := Int.mul_nonneg (a := n) (b := (one64 : Int)) (by omega) (by omega); omega
        rw [decide_eq_true this]
    rw [za, Nat.mul_assoc, ← Nat.pow_add] at zabs
    have n1 : 0 < n.natAbs := by
      rcases Nat.eq_zero_or_pos n.natAbs with z | z
      · exfalso
        rw [z, Nat.zero_mul] at zabs
        have : 0 < (2 ^ 52 + T) * 2 ^ (E - 1 + 10) := Nat.mul_pos (by omega) (Nat.two_pow_pos _)
        omega
      · exact z
    have hlo : 1013 ≤ E := by
      by_cases q : 1013 ≤ E
      · exact q
      · exfalso
        have a1 : 2 ^ (E - 1 + 10) ≤ 2 ^ 1021 := Nat.pow_le_pow_right (by decide) (by omega)
        have a2 : (2 ^ 52 + T) * 2 ^ (E - 1 + 10) ≤ (2 ^ 52 + T) * 2 ^ 1021 := Nat.mul_le_mul_left _ a1
        have a3 : (2 ^ 52 + T) * 2 ^ 1021 < 2 ^ 53 * 2 ^ 1021 := Nat.mul_lt_mul_of_pos_right (by omega) (Nat.two_pow_pos _)
        have a4 : 2 ^ 1074 ≤ n.natAbs * 2 ^ 1074 := Nat.le_mul_of_pos_left _ n1
        rw [← Nat.pow_add] at a3
        rw [← zabs] at a4
        exact absurd (Nat.lt_of_le_of_lt (Nat.le_trans a4 a2) a3) (Nat.lt_irrefl _)
    have hhi : E ≤ 1064 := by
      by_cases q : E ≤ 1064
      · exact q
      · exfalso
        have a1 : 2 ^ 1074 ≤ 2 ^ (E - 1 + 10) := Nat.pow_le_pow_right (by decide) (by omega)
        have a2 : 2 ^ 52 * 2 ^ 1074 ≤ (2 ^ 52 + T) * 2 ^ (E - 1 + 10) := Nat.mul_le_mul (by omega) a1
        have a3 : n.natAbs * 2 ^ 1074 < 2 ^ 52 * 2 ^ 1074 := Nat.mul_lt_mul_of_pos_right hn (Nat.two_pow_pos _)
        rw [zabs] at a2
        exact absurd (Nat.lt_of_le_of_lt a2 a3) (Nat.lt_irrefl _)
    refine ⟨1074 - E, by omega, by omega, by omega, ?_, sg⟩
    refine Nat.eq_of_mul_eq_mul_right (Nat.two_pow_pos (E - 1 + 10)) ?_
    rw [zabs, Nat.mul_assoc, ← Nat.pow_add, show 1074 - E - 9 + (E - 1 + 10) = 1074 by omega]
theorem sh_and (s : Int64) (k : Nat) (hs : s.toInt = (k : Int)) (hk : k ≤ 63) : s &&& (-64 : Int64) = 0 := by
  have : s = Int64.ofNat k := by
    refine Int64.toInt_inj.mp ?_
    rw [hs, Int64.toInt_ofNat_of_lt (by omega)]
  rw [this]
  have all : ∀ j : Fin 64, (Int64.ofNat j.val) &&& (-64 : Int64) = 0 := by decide
  exact all ⟨k, by omega⟩
/-- the shift of Math.round -/
theorem rnd_sh {n : Int} {d : UInt64} (h : Dy n 10 d) (hn : n.natAbs < 2 ^ 52) {be sh : Int64} (hbe : be = ((d.toInt64 &&& (9218868437227405312 : Int64)) >>> ((52 : Int32) &&& 0x3f).toInt64)) (hsh : sh = (1074 : Int64) - be) :
    (n = 0 ∧ ¬ (sh &&& (-64 : Int64)) = 0 ∧ (Jvm.FP.d2l d).toInt = 0) ∨ (sh &&& (-64 : Int64) = 0 ∧ ∃ k : Nat, 10 ≤ k ∧ k ≤ 61 ∧ sh.toInt = (k : Int) ∧ 2 ^ 52 + d.toNat % 2 ^ 52 = n.natAbs * 2 ^ (k - 9) ∧ decide (n < 0) = decide (d.toInt64.toInt < 0)) := by
  have e := bt_exp d
  rw [← hbe] at e
  have hE : d.toNat / 2 ^ 52 % 2048 < 2048 := Nat.mod_lt _ (by decide)
  have s := c_lsub 1074 be; have s2 := rng64 ((1074 : Int64) - be); have e4 : (1074 : Int64).toInt = 1074 := by decide
  rw [e4, ← hsh] at s
  rw [← hsh] at s2
  rcases rnd_shape h hn with ⟨n0, h1, h2⟩ | ⟨k, h1, h2, h3, h4, h5⟩
  · left
    refine ⟨n0, ?_, ?_⟩
    · have b0 : be = 0 := Int64.toInt_inj.mp (by rw [e, h1]; rfl)
      rw [hsh, b0]; decide
    · show (d2l d).toInt = 0
      rw [d2l_val h.nn, h2]
      show max (-2 ^ 63) (min (2 ^ 63 - 1) (signed (fieldS b64 d.toNat) (0 * 2 ^ (b64.qmin - b64.qmin).toNat / one64))) = 0
      rw [Nat.zero_mul, Nat.zero_div, signed_zero]; decide
  · right
    have hk : sh.toInt = (k : Int) := by rw [h3] at e; omega
    exact ⟨sh_and sh k hk (by omega), k, h1, h2, hk, h4, h5⟩
theorem rnd_core {n : Int} {k : Nat} (h1 : 10 ≤ k) (h2 : k ≤ 61) {m8 sh : Int64} (hsh : sh.toInt = (k : Int)) (hm : m8.toInt = n * 2 ^ (k - 9)) (hn : n.natAbs < 2 ^ 52) :
    (((m8 >>> ((sh.toInt32) &&& 0x3f).toInt64) + (1 : Int64)) >>> ((1 : Int32) &&& 0x3f).toInt64).toInt = (n + 512) / 1024 := by
  have q1 := c_l2i sh; have q2 := rng32 sh.toInt32
  have q3 : sh.toInt32.toInt = (k : Int) := by omega
  have q4 : sh.toInt32.toBitVec.toNat % 64 = k := by
    have := q3
    change sh.toInt32.toBitVec.toInt = _ at this
    rw [BitVec.toInt_eq_toNat_cond] at this
    split at this <;> omega
  have a1 := c_lshr m8 sh.toInt32 k q4
  have a2 : m8.toInt / ((2 ^ k : Nat) : Int) = n / 512 := by
    rw [hm, show ((2 ^ k : Nat) : Int) = 512 * 2 ^ (k - 9) by rw [Int.natCast_pow, show k = 9 + (k - 9) by omega, Int.pow_add, show 9 + (k - 9) - 9 = k - 9 by omega]; rfl, Int.mul_ediv_mul_of_pos_left _ _ (two_pos _)]
  rw [a2] at a1
  have a3 := c_ladd (m8 >>> ((sh.toInt32) &&& 0x3f).toInt64) 1; have a4 := rng64 ((m8 >>> ((sh.toInt32) &&& 0x3f).toInt64) + (1 : Int64)); have e1 : (1 : Int64).toInt = 1 := by decide
  rw [a1, e1] at a3
  rw [c_lshr _ 1 1 (by decide), show ((m8 >>> ((sh.toInt32) &&& 0x3f).toInt64) + (1 : Int64)).toInt = n / 512 + 1 by omega]
  show (n / 512 + 1) / 2 = _
  omega
theorem rnd_mag (d : UInt64) : ((d.toInt64 &&& (4503599627370495 : Int64)) ||| (4503599627370496 : Int64)).toInt = ((2 ^ 52 + d.toNat % 2 ^ 52 : Nat) : Int) := by
  have t := bt_tail d
  have hT : d.toNat % 2 ^ 52 < 2 ^ 52 := Nat.mod_lt _ (by decide)
  have o := c_orL' (d.toInt64 &&& (4503599627370495 : Int64)) (4503599627370496 : Int64) 52 (by decide) 4503599627370496 (by decide) (by decide) (by omega) (by omega)
  have r := rng64 ((d.toInt64 &&& (4503599627370495 : Int64)) ||| (4503599627370496 : Int64)); have e : (4503599627370496 : Int64).toInt = 4503599627370496 := by decide
  rw [e] at o; omega
theorem rnd_neg {n : Int} {d : UInt64} {sh : Int64} {k : Nat} (hk : 10 ≤ k ∧ k ≤ 61 ∧ sh.toInt = (k : Int) ∧ 2 ^ 52 + d.toNat % 2 ^ 52 = n.natAbs * 2 ^ (k - 9) ∧ decide (n < 0) = decide (d.toInt64.toInt < 0)) (hn : n.natAbs < 2 ^ 52) (hb : d.toInt64 < 0) :
    ((((-((d.toInt64 &&& (4503599627370495 : Int64)) ||| (4503599627370496 : Int64))) >>> ((sh.toInt32) &&& 0x3f).toInt64) + (1 : Int64)) >>> ((1 : Int32) &&& 0x3f).toInt64).toInt = (n + 512) / 1024 := by
  obtain ⟨h1, h2, h3, h4, h5⟩ := hk
  refine rnd_core h1 h2 h3 ?_ hn
  have m := rnd_mag d
  have hT : d.toNat % 2 ^ 52 < 2 ^ 52 := Nat.mod_lt _ (by decide)
  have g := c_lneg ((d.toInt64 &&& (4503599627370495 : Int64)) ||| (4503599627370496 : Int64)); have r := rng64 (-((d.toInt64 &&& (4503599627370495 : Int64)) ||| (4503599627370496 : Int64)))
  have b : d.toInt64.toInt < 0 := by rw [Int64.lt_iff_toInt_lt] at hb; exact hb
  have n0 : n < 0 := by rw [decide_eq_true b] at h5; exact of_decide_eq_true h5
  have e : (-((d.toInt64 &&& (4503599627370495 : Int64)) ||| (4503599627370496 : Int64))).toInt = -((2 ^ 52 + d.toNat % 2 ^ 52 : Nat) : Int) := by omega
  rw [e, h4, Int.natCast_mul, Int.natCast_pow, show ((n.natAbs : Nat) : Int) = -n by omega]
  rw [Int.neg_mul, Int.neg_neg]; rfl
theorem rnd_pos {n : Int} {d : UInt64} {sh : Int64} {k : Nat} (hk : 10 ≤ k ∧ k ≤ 61 ∧ sh.toInt = (k : Int) ∧ 2 ^ 52 + d.toNat % 2 ^ 52 = n.natAbs * 2 ^ (k - 9) ∧ decide (n < 0) = decide (d.toInt64.toInt < 0)) (hn : n.natAbs < 2 ^ 52) (hb : ¬ d.toInt64 < 0) :
    (((((d.toInt64 &&& (4503599627370495 : Int64)) ||| (4503599627370496 : Int64)) >>> ((sh.toInt32) &&& 0x3f).toInt64) + (1 : Int64)) >>> ((1 : Int32) &&& 0x3f).toInt64).toInt = (n + 512) / 1024 := by
  obtain ⟨h1, h2, h3, h4, h5⟩ := hk
  refine rnd_core h1 h2 h3 ?_ hn
  have m := rnd_mag d
  have b : ¬ d.toInt64.toInt < 0 := by rw [Int64.lt_iff_toInt_lt] at hb; exact hb
  have n0 : ¬ n < 0 := by rw [decide_eq_false b] at h5; exact of_decide_eq_false h5
  rw [m, h4, Int.natCast_mul, Int.natCast_pow, show ((n.natAbs : Nat) : Int) = n by omega]; rfl
end Jvm.OwnFP
namespace Jvm.Pilot.@@N@@
open Jvm Jvm.ClassFile Sem Op Lib Jvm.Free Jvm.Stand Jvm.LawKit Jvm.RoadKit Bundle Jvm.OwnFP Jvm.OwnKit Jvm.Pilot.@@N@@.Jvm.D
theorem own_1024 : Dy 1024 0 4652218415073722368 := by
  have := dy_i2d 1024
  rw [show Jvm.FP.Core.i2d 1024 = 4652218415073722368 by decide +kernel] at this; exact this
/-- k is the whole number nearest to a * d / 1024 -/
def OwnK (a : Int64) (d : Int32) (k : Int64) : Prop := (-2147483648 ≤ a.toInt ∧ a.toInt ≤ 2147483648) ∧ k.toInt = (a.toInt * d.toInt + 512) / 1024
def OwnD (d : Int32) : Prop := 1 ≤ d.toInt ∧ d.toInt ≤ 1048576
def OwnOk (k : Int64) (d : Int32) : Prop := 0 ≤ k.toInt ∧ k.toInt ≤ d.toInt
def OwnG0 (d : Int32) : Prop := (0 : Int) = d.toInt
def OwnG1 (k0 : Int64) (d : Int32) : Prop := OwnOk k0 d ∧ k0.toInt = d.toInt
def OwnG2 (k0 k1 : Int64) (d : Int32) : Prop := OwnOk k0 d ∧ OwnOk k1 d ∧ k0.toInt + k1.toInt = d.toInt
def OwnG3 (k0 k1 k2 : Int64) (d : Int32) : Prop := OwnOk k0 d ∧ OwnOk k1 d ∧ OwnOk k2 d ∧ k0.toInt + k1.toInt + k2.toInt = d.toInt
theorem own_z64 : (0 : Int64).toInt = 0 := by decide
theorem own_prod_bd {a d : Int} (ha : -2147483648 ≤ a ∧ a ≤ 2147483648) (hd : 1 ≤ d ∧ d ≤ 1048576) : -2251799813685248 ≤ a * d ∧ a * d ≤ 2251799813685248 := by
  have h1 : (2147483648 - a) * d ≥ 0 := Int.mul_nonneg (by omega) (by omega)
  have h2 : (a + 2147483648) * d ≥ 0 := Int.mul_nonneg (by omega) (by omega)
  rw [Int.sub_mul] at h1; rw [Int.add_mul] at h2
  omega
theorem own_lmul {a : Int64} {d : Int32} (ha : -2147483648 ≤ a.toInt ∧ a.toInt ≤ 2147483648) (hd : OwnD d) : (a * d.toInt64).toInt = a.toInt * d.toInt := by
  have b := own_prod_bd ha hd
  have m := c_lmul a d.toInt64; have r := rng64 (a * d.toInt64); rw [c_i2l] at m
  generalize a.toInt * d.toInt = y at *
  omega
theorem own_rnd1 {n : Int64} {m : Int64} (hn : -4611686018427387904 ≤ n.toInt ∧ n.toInt ≤ 4611686018427387904) (hm : m = n + 512) (h : ¬ m < 0) : (m / 1024).toInt = (n.toInt + 512) / 1024 := by
  have a := c_ladd n 512; have r := rng64 (n + 512); have e : (512 : Int64).toInt = 512 := by decide
  rw [e, ← hm] at a; rw [← hm] at r
  rw [Int64.lt_iff_toInt_lt, own_z64] at h
  rw [(c_ldiv m 1024 1024 (by decide) (by decide)).1 (by omega)]
  congr 1; omega
theorem own_rnd2 {n : Int64} {m : Int64} (hn : -4611686018427387904 ≤ n.toInt ∧ n.toInt ≤ 4611686018427387904) (hm : m = n + 512) (h : m < 0) : (-((-m + (1023 : Int64)) / (1024 : Int64))).toInt = (n.toInt + 512) / 1024 := by
  have a := c_ladd n 512; have r := rng64 (n + 512); have e : (512 : Int64).toInt = 512 := by decide
  rw [e, ← hm] at a; rw [← hm] at r
  rw [Int64.lt_iff_toInt_lt, own_z64] at h
  have b := c_lneg m; have rb := rng64 (-m)
  have c := c_ladd (-m) 1023; have rc := rng64 (-m + (1023 : Int64)); have e3 : (1023 : Int64).toInt = 1023 := by decide
  rw [e3] at c
  have q := (c_ldiv (-m + (1023 : Int64)) 1024 1024 (by decide) (by decide)).1 (by omega)
  have g := c_lneg ((-m + (1023 : Int64)) / (1024 : Int64)); have rg := rng64 (-((-m + (1023 : Int64)) / (1024 : Int64)))
  rw [q] at g
  omega
theorem own_pick1 (x : Int32) : -2147483648 ≤ x.toInt64.toInt ∧ x.toInt64.toInt ≤ 2147483648 := by rw [c_i2l]; have := rng32 x; omega
theorem own_pick2 (x : Int32) : -2147483648 ≤ ((x &&& (2047 : Int32)) - (512 : Int32)).toInt64.toInt ∧ ((x &&& (2047 : Int32)) - (512 : Int32)).toInt64.toInt ≤ 2147483648 := own_pick1 _
/-- a / 1024 times d -/
theorem own_x {a : Int64} (ha : -2147483648 ≤ a.toInt ∧ a.toInt ≤ 2147483648) : Dy a.toInt 10 (FP.ddiv (FP.l2d a) 4652218415073722368) :=
  dy_div (dy_l2d (a := a) (by omega)) own_1024 (by decide) (by decide) (by omega) (by simp)
theorem own_xd {a : Int64} {d : Int32} (ha : -2147483648 ≤ a.toInt ∧ a.toInt ≤ 2147483648) (hd : OwnD d) : Dy (a.toInt * d.toInt) 10 (FP.dmul (FP.ddiv (FP.l2d a) 4652218415073722368) (FP.i2d d)) := by
  have b := own_prod_bd ha hd
  exact dy_mul (own_x ha) (dy_i2d d) (by decide) (by omega)
theorem own_kd {k : Int64} {d : Int32} (hd : OwnD d) : Jvm.Free.Fl.NoNaN64 (FP.ddiv (FP.l2d k) (FP.i2d d)) :=
  nnv (div_nn (Jvm.FP.Core.l2d_fin k) (dy_i2d d).1 (Int.ne_of_gt ((dy_i2d d).pos (by have := hd.1; omega))))
theorem own_self {k : Int64} {d : Int32} (hd : OwnD d) : cmpValue (FP.dcmp (FP.ddiv (FP.l2d k) (FP.i2d d)) (FP.ddiv (FP.l2d k) (FP.i2d d))) .l = 0 :=
  (cv_eq _ _).mpr (cmp_eq (nn_v (own_kd hd)) (nn_v (own_kd hd)) rfl)
theorem own_ltz {k : Int64} : k < 0 ↔ k.toInt < 0 := by rw [Int64.lt_iff_toInt_lt, own_z64]
theorem own_ltd {k : Int64} {d : Int32} : d.toInt64 < k ↔ d.toInt < k.toInt := by rw [Int64.lt_iff_toInt_lt, c_i2l]
theorem own_not_ok {k : Int64} {d : Int32} (h : k < 0 ∨ d.toInt64 < k) : ¬ OwnOk k d := by
  rw [own_ltz, own_ltd] at h; unfold OwnOk; omega
theorem own_is_ok {k : Int64} {d : Int32} (h : ¬ k < 0) (g : ¬ d.toInt64 < k) : OwnOk k d := by
  rw [own_ltz] at h; rw [own_ltd] at g; unfold OwnOk; omega
theorem own_ind {dr dd : Int32} (h : dd = (1 : Int32) + (dr &&& (1023 : Int32)) ∨ dd = (1 : Int32) + (dr &&& (1048575 : Int32))) : OwnD dd := by
  have e1 : (1 : Int32).toInt = 1 := by decide
  unfold OwnD
  rcases h with rfl | rfl
  · have m := c_mask dr 1023 10 (by decide) (by decide)
    have a := c_iadd 1 (dr &&& (1023 : Int32)); have r := rng32 ((1 : Int32) + (dr &&& (1023 : Int32)))
    rw [e1, m] at a; omega
  · have m := c_mask dr 1048575 20 (by decide) (by decide)
    have a := c_iadd 1 (dr &&& (1048575 : Int32)); have r := rng32 ((1 : Int32) + (dr &&& (1048575 : Int32)))
    rw [e1, m] at a; omega
theorem own_ln {m ln : Int32} (h : ln = ((m >>> ((3 : Int32) &&& 31)) &&& (3 : Int32))) : ln = 0 ∨ ln = 1 ∨ ln = 2 ∨ ln = 3 := by
  have q := c_mask (m >>> ((3 : Int32) &&& 31)) 3 2 (by decide) (by decide)
  rw [← h] at q
  have : ln.toInt = 0 ∨ ln.toInt = 1 ∨ ln.toInt = 2 ∨ ln.toInt = 3 := by omega
  rcases this with e | e | e | e
  · exact Or.inl (Int32.toInt_inj.mp e)
  · exact Or.inr (Or.inl (Int32.toInt_inj.mp e))
  · exact Or.inr (Or.inr (Or.inl (Int32.toInt_inj.mp e)))
  · exact Or.inr (Or.inr (Or.inr (Int32.toInt_inj.mp e)))
theorem own_nzd {d : Int32} (hd : OwnD d) : ¬ d.toInt64 = 0 := fun q => by
  have := c_i2l d; rw [q, own_z64] at this; have := hd.1; omega
theorem own_m1 {d : Int32} (hd : OwnD d) : d.toInt64 ≠ -1 := fun q => by
  have h := c_i2l d
  rw [q, show (-1 : Int64).toInt = -1 by decide] at h
  have := hd.1; omega
theorem own_a {t : Int64} {d : Int32} (hd : OwnD d) (h0 : ¬ t < 0) (h1 : ¬ d.toInt64 < t) : -2147483648 ≤ (((1024 : Int64) * t + (d / (2 : Int32)).toInt64) / d.toInt64).toInt ∧ (((1024 : Int64) * t + (d / (2 : Int32)).toInt64) / d.toInt64).toInt ≤ 2147483648 := by
  rw [own_ltz] at h0; rw [own_ltd] at h1
  have hd1 := hd.1; have hd2 := hd.2
  have m := c_lmul 1024 t; have rm := rng64 ((1024 : Int64) * t); have e : (1024 : Int64).toInt = 1024 := by decide
  rw [e] at m
  have q := (c_idiv d 2 2 (by decide) (by decide)).1 (by omega)
  have qi := c_i2l (d / (2 : Int32))
  have a := c_ladd ((1024 : Int64) * t) (d / (2 : Int32)).toInt64; have ra := rng64 ((1024 : Int64) * t + (d / (2 : Int32)).toInt64)
  have v := (c_ldiv ((1024 : Int64) * t + (d / (2 : Int32)).toInt64) d.toInt64 d.toInt (c_i2l d) (own_m1 hd)).1 (by omega)
  rw [v]
  have s : ((1024 : Int64) * t + (d / (2 : Int32)).toInt64).toInt = 1024 * t.toInt + d.toInt / 2 := by omega
  rw [s]
  have h2 : 0 ≤ (1024 * t.toInt + d.toInt / 2) / d.toInt := Int.ediv_nonneg (by omega) (by omega)
  have h3 : (1024 * t.toInt + d.toInt / 2) / d.toInt ≤ 1024 * t.toInt + d.toInt / 2 := Int.ediv_le_self _ (by omega)
  omega
theorem own_nok {a : Int64} {d : Int32} {k : Int64} (h : OwnK a d k) : -2147483648 ≤ a.toInt ∧ a.toInt ≤ 2147483648 := h.1

theorem own_one {ok : Int32} {k : Int64} {d : Int32} (h : (ok = 1 ∧ OwnOk k d) ∨ (ok = 0 ∧ ¬ OwnOk k d)) (g : OwnOk k d) : ¬ ok = 0 := by
  rcases h with ⟨rfl, _⟩ | ⟨_, q⟩
  · decide
  · exact absurd g q
theorem own_yes {ok : Int32} {k : Int64} {d : Int32} (h : (ok = 1 ∧ OwnOk k d) ∨ (ok = 0 ∧ ¬ OwnOk k d)) (g : ¬ ok = 0) : OwnOk k d := by
  rcases h with ⟨_, q⟩ | ⟨q, _⟩
  · exact q
  · exact absurd q g
theorem own_s2 {k0 k1 : Int64} {d : Int32} (hd : OwnD d) (h0 : OwnOk k0 d) (h1 : OwnOk k1 d) : ((k0 + k1) + (0 : Int64)).toInt = k0.toInt + k1.toInt := by
  unfold OwnD at hd; unfold OwnOk at h0 h1
  have a := c_ladd k0 k1; have r := rng64 (k0 + k1); have b := c_ladd (k0 + k1) 0; have s := rng64 ((k0 + k1) + (0 : Int64)); have e := own_z64
  omega
theorem own_s1 {k0 : Int64} {d : Int32} (hd : OwnD d) (h0 : OwnOk k0 d) : ((k0 + (0 : Int64)) + (0 : Int64)).toInt = k0.toInt := by
  unfold OwnD at hd; unfold OwnOk at h0
  have a := c_ladd k0 0; have r := rng64 (k0 + (0 : Int64)); have b := c_ladd (k0 + (0 : Int64)) 0; have s := rng64 ((k0 + (0 : Int64)) + (0 : Int64)); have e := own_z64
  omega
theorem own_s3 {k0 k1 k2 : Int64} {d : Int32} (hd : OwnD d) (h0 : OwnOk k0 d) (h1 : OwnOk k1 d) (h2 : OwnOk k2 d) : ((k0 + k1) + k2).toInt = k0.toInt + k1.toInt + k2.toInt := by
  unfold OwnD at hd; unfold OwnOk at h0 h1 h2
  have a := c_ladd k0 k1; have r := rng64 (k0 + k1); have b := c_ladd (k0 + k1) k2; have s := rng64 ((k0 + k1) + k2)
  omega
theorem ef_rmP (m : MethodId) (x0 : Int32) (x1 : Int32) : entryFrame m #[(.int x0), (.int x1)] 2 = mkF m 0 #[.val (.int x0), .val (.int x1)] [] := by first | (simp [entryFrame, mkF, argsToLocals, Value.category]; done) | rfl
theorem d1_0 : decode method_3_code 0 = .ok (.iload_n 1, 1) := by decide +kernel
theorem d1_1 : decode method_3_code 1 = .ok (.ifCond .eq 6, 3) := by decide +kernel
theorem d1_7 : decode method_3_code 7 = .ok (.iload_n 0, 1) := by decide +kernel
theorem d1_8 : decode method_3_code 8 = .ok (.sipush 2047, 3) := by decide +kernel
theorem d1_11 : decode method_3_code 11 = .ok (.iand, 1) := by decide +kernel
theorem d1_12 : decode method_3_code 12 = .ok (.sipush 512, 3) := by decide +kernel
theorem d1_15 : decode method_3_code 15 = .ok (.isub, 1) := by decide +kernel
theorem d1_16 : decode method_3_code 16 = .ok (.i2l, 1) := by decide +kernel
theorem d1_17 : decode method_3_code 17 = .ok (.lreturn, 1) := by decide +kernel
theorem d1_4 : decode method_3_code 4 = .ok (.iload_n 0, 1) := by decide +kernel
theorem d1_5 : decode method_3_code 5 = .ok (.i2l, 1) := by decide +kernel
theorem d1_6 : decode method_3_code 6 = .ok (.lreturn, 1) := by decide +kernel
theorem own_pn_com_example_tillerfront_tillerfront_engine_ReferencePointsNearestPinLaw : plainName "com/example/tillerfront/tillerfront/engine/ReferencePointsNearestPinLaw" = true := by first | (simp [plainName, overriddenIn]; done) | decide +kernel
def QP (Z : State) (p0 : Int32) (p1 : Int32) (h0 : Heap) (n0 : Nat) (v : Option Value) (h : Heap) (L : List Loc) : Prop := ∃ r : Int64, v = some (.long r) ∧ (-2147483648 ≤ r.toInt ∧ r.toInt ≤ 2147483648) ∧ Fr n0 L ∧ h = h0
set_option maxRecDepth 65536 in
set_option maxHeartbeats 40000000 in
theorem rmP (l : Launch) (Z : State) (a0 : Array Value) (hw : ∀ d ∈ tables_1, d.before a0 Z = true) (ws : List Jvm.Cond) (p0 : Int32) (p1 : Int32) (h0 : Heap) (n0 : Nat) (Z0 : n0 ≤ h0.size) :
    MetFree l (⟨"com/example/tillerfront/tillerfront/engine/ReferencePointsNearestPinLaw", "pick", "(IZ)J"⟩ : MethodName) (head1 (Jvm.Cond.code (⟨"com/example/tillerfront/tillerfront/engine/ReferencePointsNearestPinLaw", "pick", "(IZ)J"⟩ : MethodName) method_3_code 2 (some .long) :: ws) ({ frames := 0, cells := 0, slots := 0, locals := 0 } : Room)) (fun a U => a = #[(.int p0), (.int p1)] ∧ Z.Warmed39 U.vm ∧ U.heap = h0) (fun _ _ _ _ _ => True) (fun _ U o U' => ∃ v L, o = .returned v ∧ QP Z p0 p1 h0 n0 v U'.heap L ∧ FrameEnd U o U' L ({ frames := 0, cells := 0, slots := 0, locals := 0 } : Room).cells ({ frames := 0, cells := 0, slots := 0, locals := 0 } : Room).slots) := by
  refine MetFree.of_bodySF (plainFor_of_name own_pn_com_example_tillerfront_tillerfront_engine_ReferencePointsNearestPinLaw) hisR ?_
  intro p e s m args below meth c s₁ Bd hml0 hP hK
  obtain ⟨rfl, hZ, hh⟩ := hP
  have hx := Bd.exec
  have hby := Bd.bytes
  have hml : c.maxLocals = 2 := hml0
  have hown : s.vm.findClass "com/example/tillerfront/tillerfront/engine/ReferencePointsNearestPinLaw" = some m.cls := findClass_of_methodNamed Bd.named
  have hnm := (name_of_methodNamed Bd.named Bd.method).1
  have X0 : Stand p l e ({ frames := 0, cells := 0, slots := 0, locals := 0 } : Room) s m #[(.int p0), (.int p1)] below meth c s₁ [] 0 0 := Stand.of_body Bd
  have e0 : s₁.heap = h0 := by rw [← hh, Bd.state]; rfl
  have N0 := Fr.nil n0
  have pre0 : ∀ t, Steps p.tables e below (s₁.setTop (mkF m 0 #[.val (.int p0), .val (.int p1)] [])) t → Steps p.tables e below (s₁.setTop (entryFrame m #[(.int p0), (.int p1)] 2)) t := fun t k => castTop (ef_rmP m p0 p1) k
  have a1 : ∀ t, Steps p.tables e below (s₁.setTop (mkF m 1 #[.val (.int p0), .val (.int p1)] [(.int p1)])) t → Steps p.tables e below (s₁.setTop (entryFrame m #[(.int p0), (.int p1)] 2)) t := by
    intro t k
    refine pre0 t ?_
    show Steps p.tables e below (s₁.setTop (mkF m 0 #[.val (.int p0), .val (.int p1)] [])) _
    refine XS.iloadN X0.here hx rfl (hb hby d1_0) rfl ?_
    exact k
  by_cases hc1_2 : p1 = (0 : Int32)
  ·
    have a3 : ∀ t, Steps p.tables e below (s₁.setTop (mkF m 17 #[.val (.int p0), .val (.int p1)] [(.long (((p0 &&& (2047 : Int32)) - (512 : Int32)).toInt64))])) t → Steps p.tables e below (s₁.setTop (entryFrame m #[(.int p0), (.int p1)] 2)) t := by
      intro t k
      refine a1 t ?_
      show Steps p.tables e below (s₁.setTop (mkF m 1 #[.val (.int p0), .val (.int p1)] [(.int p1)])) _
      refine XS.ifYes X0.here hx rfl (pc0 := 1) (pc' := 7) rfl (hb hby d1_1) rfl ((if0 _ _).trans (teq hc1_2).1) (by decide) (by decide) ?_
      refine XS.iloadN X0.here hx rfl (hb hby d1_7) rfl ?_
      refine XS.sipush X0.here hx rfl (hb hby d1_8) ?_
      refine XS.iand X0.here hx rfl (hb hby d1_11) rfl ?_
      refine XS.sipush X0.here hx rfl (hb hby d1_12) ?_
      refine XS.isub X0.here hx rfl (hb hby d1_15) rfl ?_
      refine XS.i2l X0.here hx rfl (hb hby d1_16) rfl ?_
      exact k
    obtain ⟨fs, hr, hrun, hended, hW, hsame⟩ := X0.leave (v := some (.long (((p0 &&& (2047 : Int32)) - (512 : Int32)).toInt64))) (fun h => by rw [Bd.returns] at h; cases h)
    refine ⟨_, _, a3 _ ?_, hrun, hended, _, _, rfl, ?_, ⟨_, rfl⟩, hW, hsame.mono (by decide) (by decide)⟩
    · show Steps p.tables e below (s₁.setTop (mkF m 17 #[.val (.int p0), .val (.int p1)] [(.long (((p0 &&& (2047 : Int32)) - (512 : Int32)).toInt64))])) _
      exact retOut X0 hx Bd.returns rfl (Or.inr (Or.inl ⟨rfl, rfl, _, rfl⟩)) (hb hby d1_17) hr
    · show QP Z p0 p1 h0 n0 _ s₁.heap _
      rw [e0]
      exact ⟨_, rfl, own_pick2 p0, N0, rfl⟩
  ·
    have a4 : ∀ t, Steps p.tables e below (s₁.setTop (mkF m 6 #[.val (.int p0), .val (.int p1)] [(.long (p0.toInt64))])) t → Steps p.tables e below (s₁.setTop (entryFrame m #[(.int p0), (.int p1)] 2)) t := by
      intro t k
      refine a1 t ?_
      show Steps p.tables e below (s₁.setTop (mkF m 1 #[.val (.int p0), .val (.int p1)] [(.int p1)])) _
      refine XS.ifNo X0.here hx rfl (hb hby d1_1) rfl ((if0 _ _).trans (feq hc1_2).1) ?_
      refine XS.iloadN X0.here hx rfl (hb hby d1_4) rfl ?_
      refine XS.i2l X0.here hx rfl (hb hby d1_5) rfl ?_
      exact k
    obtain ⟨fs, hr, hrun, hended, hW, hsame⟩ := X0.leave (v := some (.long (p0.toInt64))) (fun h => by rw [Bd.returns] at h; cases h)
    refine ⟨_, _, a4 _ ?_, hrun, hended, _, _, rfl, ?_, ⟨_, rfl⟩, hW, hsame.mono (by decide) (by decide)⟩
    · show Steps p.tables e below (s₁.setTop (mkF m 6 #[.val (.int p0), .val (.int p1)] [(.long (p0.toInt64))])) _
      exact retOut X0 hx Bd.returns rfl (Or.inr (Or.inl ⟨rfl, rfl, _, rfl⟩)) (hb hby d1_6) hr
    · show QP Z p0 p1 h0 n0 _ s₁.heap _
      rw [e0]
      exact ⟨_, rfl, own_pick1 p0, N0, rfl⟩
theorem ef_rmR (m : MethodId) (x0 : Int64) : entryFrame m #[(.long x0)] 4 = mkF m 0 #[.val (.long x0), .second, .unset, .unset] [] := by first | (simp [entryFrame, mkF, argsToLocals, Value.category]; done) | rfl
theorem d2_0 : decode method_4_code 0 = .ok (.lload_n 0, 1) := by decide +kernel
theorem d2_1 : decode method_4_code 1 = .ok (.ldc2_w 28, 3) := by decide +kernel
theorem d2_4 : decode method_4_code 4 = .ok (.ladd, 1) := by decide +kernel
theorem d2_5 : decode method_4_code 5 = .ok (.lstore_n 2, 1) := by decide +kernel
theorem d2_6 : decode method_4_code 6 = .ok (.lload_n 2, 1) := by decide +kernel
theorem d2_7 : decode method_4_code 7 = .ok (.lconst 0, 1) := by decide +kernel
theorem d2_8 : decode method_4_code 8 = .ok (.lcmp, 1) := by decide +kernel
theorem d2_9 : decode method_4_code 9 = .ok (.ifCond .lt 9, 3) := by decide +kernel
theorem d2_18 : decode method_4_code 18 = .ok (.lload_n 2, 1) := by decide +kernel
theorem d2_19 : decode method_4_code 19 = .ok (.lneg, 1) := by decide +kernel
theorem d2_20 : decode method_4_code 20 = .ok (.ldc2_w 30, 3) := by decide +kernel
theorem d2_23 : decode method_4_code 23 = .ok (.ladd, 1) := by decide +kernel
theorem d2_24 : decode method_4_code 24 = .ok (.ldc2_w 18, 3) := by decide +kernel
theorem d2_27 : decode method_4_code 27 = .ok (.ldiv, 1) := by decide +kernel
theorem d2_28 : decode method_4_code 28 = .ok (.lneg, 1) := by decide +kernel
theorem d2_29 : decode method_4_code 29 = .ok (.lreturn, 1) := by decide +kernel
theorem d2_12 : decode method_4_code 12 = .ok (.lload_n 2, 1) := by decide +kernel
theorem d2_13 : decode method_4_code 13 = .ok (.ldc2_w 18, 3) := by decide +kernel
theorem d2_16 : decode method_4_code 16 = .ok (.ldiv, 1) := by decide +kernel
theorem d2_17 : decode method_4_code 17 = .ok (.lreturn, 1) := by decide +kernel
def QR (Z : State) (q0 : Int64) (h0 : Heap) (n0 : Nat) (v : Option Value) (h : Heap) (L : List Loc) : Prop := ∃ r : Int64, v = some (.long r) ∧ r.toInt = (q0.toInt + 512) / 1024 ∧ Fr n0 L ∧ h = h0
set_option maxRecDepth 65536 in
set_option maxHeartbeats 40000000 in
theorem rmR (l : Launch) (Z : State) (a0 : Array Value) (hw : ∀ d ∈ tables_1, d.before a0 Z = true) (ws : List Jvm.Cond) (q0 : Int64) (h0 : Heap) (n0 : Nat) (Z0 : n0 ≤ h0.size) (hn : -4611686018427387904 ≤ q0.toInt ∧ q0.toInt ≤ 4611686018427387904) :
    MetFree l (⟨"com/example/tillerfront/tillerfront/engine/ReferencePointsNearestPinLaw", "rnd", "(J)J"⟩ : MethodName) (head1 (Jvm.Cond.code (⟨"com/example/tillerfront/tillerfront/engine/ReferencePointsNearestPinLaw", "rnd", "(J)J"⟩ : MethodName) method_4_code 4 (some .long) :: ws) ({ frames := 0, cells := 0, slots := 0, locals := 0 } : Room)) (fun a U => a = #[(.long q0)] ∧ Z.Warmed39 U.vm ∧ U.heap = h0) (fun _ _ _ _ _ => True) (fun _ U o U' => ∃ v L, o = .returned v ∧ QR Z q0 h0 n0 v U'.heap L ∧ FrameEnd U o U' L ({ frames := 0, cells := 0, slots := 0, locals := 0 } : Room).cells ({ frames := 0, cells := 0, slots := 0, locals := 0 } : Room).slots) := by
  refine MetFree.of_bodySF (plainFor_of_name own_pn_com_example_tillerfront_tillerfront_engine_ReferencePointsNearestPinLaw) hisR ?_
  intro p e s m args below meth c s₁ Bd hml0 hP hK
  obtain ⟨rfl, hZ, hh⟩ := hP
  have hx := Bd.exec
  have hby := Bd.bytes
  have hml : c.maxLocals = 4 := hml0
  have hown : s.vm.findClass "com/example/tillerfront/tillerfront/engine/ReferencePointsNearestPinLaw" = some m.cls := findClass_of_methodNamed Bd.named
  have hnm := (name_of_methodNamed Bd.named Bd.method).1
  have X0 : Stand p l e ({ frames := 0, cells := 0, slots := 0, locals := 0 } : Room) s m #[(.long q0)] below meth c s₁ [] 0 0 := Stand.of_body Bd
  have e0 : s₁.heap = h0 := by rw [← hh, Bd.state]; rfl
  have N0 := Fr.nil n0
  have pre0 : ∀ t, Steps p.tables e below (s₁.setTop (mkF m 0 #[.val (.long q0), .second, .unset, .unset] [])) t → Steps p.tables e below (s₁.setTop (entryFrame m #[(.long q0)] 4)) t := fun t k => castTop (ef_rmR m q0) k
  have a1 : ∀ t, Steps p.tables e below (s₁.setTop (mkF m 5 #[.val (.long q0), .second, .unset, .unset] [(.long (q0 + (512 : Int64)))])) t → Steps p.tables e below (s₁.setTop (entryFrame m #[(.long q0)] 4)) t := by
    intro t k
    refine pre0 t ?_
    show Steps p.tables e below (s₁.setTop (mkF m 0 #[.val (.long q0), .second, .unset, .unset] [])) _
    refine XS.lloadN X0.here hx rfl (hb hby d2_0) rfl ?_
    refine X0.ldc2Long hx hown (mvT hZ (hw _ (List.mem_of_getElem? (i := 8) rfl))) (g := (mkF m 1 #[.val (.long q0), .second, .unset, .unset] [(.long q0)])) rfl (hb hby d2_1) _ ?_
    refine XS.ladd X0.here hx rfl (hb hby d2_4) rfl ?_
    exact k
  obtain ⟨mm, h_mm⟩ : ∃ z : Int64, z = (q0 + (512 : Int64)) := ⟨_, rfl⟩
  rw [← h_mm] at a1
  have a2 : ∀ t, Steps p.tables e below (s₁.setTop (mkF m 9 #[.val (.long q0), .second, .val (.long mm), .second] [(.int (lcmpW mm (0 : Int64)))])) t → Steps p.tables e below (s₁.setTop (entryFrame m #[(.long q0)] 4)) t := by
    intro t k
    refine a1 t ?_
    show Steps p.tables e below (s₁.setTop (mkF m 5 #[.val (.long q0), .second, .unset, .unset] [(.long mm)])) _
    refine XS.lstoreN X0.here hx rfl (hb hby d2_5) rfl (l' := #[.val (.long q0), .second, .val (.long mm), .second]) rfl ?_
    refine XS.lloadN X0.here hx rfl (hb hby d2_6) rfl ?_
    refine XS.lconst X0.here hx rfl (hb hby d2_7) ?_
    refine XS.lcmp X0.here hx rfl (hb hby d2_8) rfl ?_
    exact k
  by_cases hc9_3 : mm < (0 : Int64)
  ·
    have a4 : ∀ t, Steps p.tables e below (s₁.setTop (mkF m 29 #[.val (.long q0), .second, .val (.long mm), .second] [(.long (-(((-mm) + (1023 : Int64)) / (1024 : Int64))))])) t → Steps p.tables e below (s₁.setTop (entryFrame m #[(.long q0)] 4)) t := by
      intro t k
      refine a2 t ?_
      show Steps p.tables e below (s₁.setTop (mkF m 9 #[.val (.long q0), .second, .val (.long mm), .second] [(.int (lcmpW mm (0 : Int64)))])) _
      refine XS.ifYes X0.here hx rfl (pc0 := 9) (pc' := 18) rfl (hb hby d2_9) rfl ((if0 _ _).trans (tlt ((lw_lt mm (0 : Int64)).mpr hc9_3)).1) (by decide) (by decide) ?_
      refine XS.lloadN X0.here hx rfl (hb hby d2_18) rfl ?_
      refine XS.lneg X0.here hx rfl (hb hby d2_19) rfl ?_
      refine X0.ldc2Long hx hown (mvT hZ (hw _ (List.mem_of_getElem? (i := 9) rfl))) (g := (mkF m 20 #[.val (.long q0), .second, .val (.long mm), .second] [(.long (-mm))])) rfl (hb hby d2_20) _ ?_
      refine XS.ladd X0.here hx rfl (hb hby d2_23) rfl ?_
      refine X0.ldc2Long hx hown (mvT hZ (hw _ (List.mem_of_getElem? (i := 10) rfl))) (g := (mkF m 24 #[.val (.long q0), .second, .val (.long mm), .second] [(.long ((-mm) + (1023 : Int64)))])) rfl (hb hby d2_24) _ ?_
      refine XS.ldiv X0.here hx rfl (hb hby d2_27) rfl (by decide) ?_
      refine XS.lneg X0.here hx rfl (hb hby d2_28) rfl ?_
      exact k
    obtain ⟨fs, hr, hrun, hended, hW, hsame⟩ := X0.leave (v := some (.long (-(((-mm) + (1023 : Int64)) / (1024 : Int64))))) (fun h => by rw [Bd.returns] at h; cases h)
    refine ⟨_, _, a4 _ ?_, hrun, hended, _, _, rfl, ?_, ⟨_, rfl⟩, hW, hsame.mono (by decide) (by decide)⟩
    · show Steps p.tables e below (s₁.setTop (mkF m 29 #[.val (.long q0), .second, .val (.long mm), .second] [(.long (-(((-mm) + (1023 : Int64)) / (1024 : Int64))))])) _
      exact retOut X0 hx Bd.returns rfl (Or.inr (Or.inl ⟨rfl, rfl, _, rfl⟩)) (hb hby d2_29) hr
    · show QR Z q0 h0 n0 _ s₁.heap _
      rw [e0]
      exact ⟨_, rfl, own_rnd2 hn h_mm hc9_3, N0, rfl⟩
  ·
    have a5 : ∀ t, Steps p.tables e below (s₁.setTop (mkF m 17 #[.val (.long q0), .second, .val (.long mm), .second] [(.long (mm / (1024 : Int64)))])) t → Steps p.tables e below (s₁.setTop (entryFrame m #[(.long q0)] 4)) t := by
      intro t k
      refine a2 t ?_
      show Steps p.tables e below (s₁.setTop (mkF m 9 #[.val (.long q0), .second, .val (.long mm), .second] [(.int (lcmpW mm (0 : Int64)))])) _
      refine XS.ifNo X0.here hx rfl (hb hby d2_9) rfl ((if0 _ _).trans (flt (fun q => hc9_3 ((lw_lt mm (0 : Int64)).mp q))).1) ?_
      refine XS.lloadN X0.here hx rfl (hb hby d2_12) rfl ?_
      refine X0.ldc2Long hx hown (mvT hZ (hw _ (List.mem_of_getElem? (i := 10) rfl))) (g := (mkF m 13 #[.val (.long q0), .second, .val (.long mm), .second] [(.long mm)])) rfl (hb hby d2_13) _ ?_
      refine XS.ldiv X0.here hx rfl (hb hby d2_16) rfl (by decide) ?_
      exact k
    obtain ⟨fs, hr, hrun, hended, hW, hsame⟩ := X0.leave (v := some (.long (mm / (1024 : Int64)))) (fun h => by rw [Bd.returns] at h; cases h)
    refine ⟨_, _, a5 _ ?_, hrun, hended, _, _, rfl, ?_, ⟨_, rfl⟩, hW, hsame.mono (by decide) (by decide)⟩
    · show Steps p.tables e below (s₁.setTop (mkF m 17 #[.val (.long q0), .second, .val (.long mm), .second] [(.long (mm / (1024 : Int64)))])) _
      exact retOut X0 hx Bd.returns rfl (Or.inr (Or.inl ⟨rfl, rfl, _, rfl⟩)) (hb hby d2_17) hr
    · show QR Z q0 h0 n0 _ s₁.heap _
      rw [e0]
      exact ⟨_, rfl, own_rnd1 hn h_mm hc9_3, N0, rfl⟩
theorem ef_rmRound (m : MethodId) (x0 : UInt64) : entryFrame m #[(.double x0)] 10 = mkF m 0 #[.val (.double x0), .second, .unset, .unset, .unset, .unset, .unset, .unset, .unset, .unset] [] := by first | (simp [entryFrame, mkF, argsToLocals, Value.category]; done) | rfl
theorem d4_0 : decode jdk_29_method_22_code 0 = .ok (.dload_n 0, 1) := by decide +kernel
theorem d4_1 : decode jdk_29_method_22_code 1 = .ok (.invokestatic 79, 3) := by decide +kernel
theorem d4_4 : decode jdk_29_method_22_code 4 = .ok (.lstore_n 2, 1) := by decide +kernel
theorem d4_5 : decode jdk_29_method_22_code 5 = .ok (.lload_n 2, 1) := by decide +kernel
theorem d4_6 : decode jdk_29_method_22_code 6 = .ok (.ldc2_w 87, 3) := by decide +kernel
theorem d4_9 : decode jdk_29_method_22_code 9 = .ok (.land, 1) := by decide +kernel
theorem d4_10 : decode jdk_29_method_22_code 10 = .ok (.bipush 52, 2) := by decide +kernel
theorem d4_12 : decode jdk_29_method_22_code 12 = .ok (.lshr, 1) := by decide +kernel
theorem d4_13 : decode jdk_29_method_22_code 13 = .ok (.lstore 4, 2) := by decide +kernel
theorem d4_15 : decode jdk_29_method_22_code 15 = .ok (.ldc2_w 89, 3) := by decide +kernel
theorem d4_18 : decode jdk_29_method_22_code 18 = .ok (.lload 4, 2) := by decide +kernel
theorem d4_20 : decode jdk_29_method_22_code 20 = .ok (.lsub, 1) := by decide +kernel
theorem d4_21 : decode jdk_29_method_22_code 21 = .ok (.lstore 6, 2) := by decide +kernel
theorem d4_23 : decode jdk_29_method_22_code 23 = .ok (.lload 6, 2) := by decide +kernel
theorem d4_25 : decode jdk_29_method_22_code 25 = .ok (.ldc2_w 91, 3) := by decide +kernel
theorem d4_28 : decode jdk_29_method_22_code 28 = .ok (.land, 1) := by decide +kernel
theorem d4_29 : decode jdk_29_method_22_code 29 = .ok (.lconst 0, 1) := by decide +kernel
theorem d4_30 : decode jdk_29_method_22_code 30 = .ok (.lcmp, 1) := by decide +kernel
theorem d4_31 : decode jdk_29_method_22_code 31 = .ok (.ifCond .ne 36, 3) := by decide +kernel
theorem d4_34 : decode jdk_29_method_22_code 34 = .ok (.lload_n 2, 1) := by decide +kernel
theorem d4_35 : decode jdk_29_method_22_code 35 = .ok (.ldc2_w 93, 3) := by decide +kernel
theorem d4_38 : decode jdk_29_method_22_code 38 = .ok (.land, 1) := by decide +kernel
theorem d4_39 : decode jdk_29_method_22_code 39 = .ok (.ldc2_w 95, 3) := by decide +kernel
theorem d4_42 : decode jdk_29_method_22_code 42 = .ok (.lor, 1) := by decide +kernel
theorem d4_43 : decode jdk_29_method_22_code 43 = .ok (.lstore 8, 2) := by decide +kernel
theorem d4_45 : decode jdk_29_method_22_code 45 = .ok (.lload_n 2, 1) := by decide +kernel
theorem d4_46 : decode jdk_29_method_22_code 46 = .ok (.lconst 0, 1) := by decide +kernel
theorem d4_47 : decode jdk_29_method_22_code 47 = .ok (.lcmp, 1) := by decide +kernel
theorem d4_48 : decode jdk_29_method_22_code 48 = .ok (.ifCond .ge 8, 3) := by decide +kernel
theorem d4_51 : decode jdk_29_method_22_code 51 = .ok (.lload 8, 2) := by decide +kernel
theorem d4_53 : decode jdk_29_method_22_code 53 = .ok (.lneg, 1) := by decide +kernel
theorem d4_54 : decode jdk_29_method_22_code 54 = .ok (.lstore 8, 2) := by decide +kernel
theorem d4_56 : decode jdk_29_method_22_code 56 = .ok (.lload 8, 2) := by decide +kernel
theorem d4_58 : decode jdk_29_method_22_code 58 = .ok (.lload 6, 2) := by decide +kernel
theorem d4_60 : decode jdk_29_method_22_code 60 = .ok (.l2i, 1) := by decide +kernel
theorem d4_61 : decode jdk_29_method_22_code 61 = .ok (.lshr, 1) := by decide +kernel
theorem d4_62 : decode jdk_29_method_22_code 62 = .ok (.lconst 1, 1) := by decide +kernel
theorem d4_63 : decode jdk_29_method_22_code 63 = .ok (.ladd, 1) := by decide +kernel
theorem d4_64 : decode jdk_29_method_22_code 64 = .ok (.iconst 1, 1) := by decide +kernel
theorem d4_65 : decode jdk_29_method_22_code 65 = .ok (.lshr, 1) := by decide +kernel
theorem d4_66 : decode jdk_29_method_22_code 66 = .ok (.lreturn, 1) := by decide +kernel
theorem d4_67 : decode jdk_29_method_22_code 67 = .ok (.dload_n 0, 1) := by decide +kernel
theorem d4_68 : decode jdk_29_method_22_code 68 = .ok (.d2l, 1) := by decide +kernel
theorem d4_69 : decode jdk_29_method_22_code 69 = .ok (.lreturn, 1) := by decide +kernel
def QRound (Z : State) (d0 : UInt64) (n : Int) (k_ : Int64) (h0 : Heap) (n0 : Nat) (v : Option Value) (h : Heap) (L : List Loc) : Prop := v = some (.long k_) ∧ Fr n0 L ∧ h = h0
set_option maxRecDepth 65536 in
set_option maxHeartbeats 40000000 in
theorem rmRound (l : Launch) (Z : State) (a0 : Array Value) (hw : ∀ d ∈ tables_1, d.before a0 Z = true) (ws : List Jvm.Cond) (d0 : UInt64) (n : Int) (k_ : Int64) (h0 : Heap) (n0 : Nat) (Z0 : n0 ≤ h0.size) (hx10 : Dy n 10 d0) (hn : n.natAbs < 2 ^ 52) (hk : k_.toInt = (n + 512) / 1024) :
    MetFree l (⟨"java/lang/Math", "round", "(D)J"⟩ : MethodName) (head1 (Jvm.Cond.code (⟨"java/lang/Math", "round", "(D)J"⟩ : MethodName) jdk_29_method_22_code 10 (some .long) :: ws) ({ frames := 1, cells := 0, slots := 0, locals := 30 } : Room)) (fun a U => a = #[(.double d0)] ∧ Z.Warmed39 U.vm ∧ U.heap = h0) (fun _ _ _ _ _ => True) (fun _ U o U' => ∃ v L, o = .returned v ∧ QRound Z d0 n k_ h0 n0 v U'.heap L ∧ FrameEnd U o U' L ({ frames := 1, cells := 0, slots := 0, locals := 30 } : Room).cells ({ frames := 1, cells := 0, slots := 0, locals := 30 } : Room).slots) := by
  refine MetFree.of_bodySF (Jvm.Free.JP.mathPlain rfl (by decide +kernel)) hisR ?_
  intro p e s m args below meth c s₁ Bd hml0 hP hK
  obtain ⟨rfl, hZ, hh⟩ := hP
  have hx := Bd.exec
  have hby := Bd.bytes
  have hml : c.maxLocals = 10 := hml0
  have hown : s.vm.findClass "java/lang/Math" = some m.cls := findClass_of_methodNamed Bd.named
  have hnm := (name_of_methodNamed Bd.named Bd.method).1
  have X0 : Stand p l e ({ frames := 1, cells := 0, slots := 0, locals := 30 } : Room) s m #[(.double d0)] below meth c s₁ [] 0 0 := Stand.of_body Bd
  have e0 : s₁.heap = h0 := by rw [← hh, Bd.state]; rfl
  have N0 := Fr.nil n0
  have pre0 : ∀ t, Steps p.tables e below (s₁.setTop (mkF m 0 #[.val (.double d0), .second, .unset, .unset, .unset, .unset, .unset, .unset, .unset, .unset] [])) t → Steps p.tables e below (s₁.setTop (entryFrame m #[(.double d0)] 10)) t := fun t k => castTop (ef_rmRound m d0) k
  have a1 : ∀ t, Steps p.tables e below (s₁.setTop (mkF m 1 #[.val (.double d0), .second, .unset, .unset, .unset, .unset, .unset, .unset, .unset, .unset] [(.double d0)])) t → Steps p.tables e below (s₁.setTop (entryFrame m #[(.double d0)] 10)) t := by
    intro t k
    refine pre0 t ?_
    show Steps p.tables e below (s₁.setTop (mkF m 0 #[.val (.double d0), .second, .unset, .unset, .unset, .unset, .unset, .unset, .unset, .unset] [])) _
    refine XS.dloadN X0.here hx rfl (hb hby d4_0) rfl ?_
    exact k
  obtain ⟨vm2, X2, st2⟩ := X0.doubleToRawLongBits hx hown (mvT hZ (hw _ (List.mem_of_getElem? (i := 21) rfl))) (mvT hZ (hw _ (List.mem_of_getElem? (i := 24) rfl))) (mvT hZ (hw _ (List.mem_of_getElem? (i := 22) rfl))) (mvT hZ (hw _ (List.mem_of_getElem? (i := 23) rfl))) (g := (mkF m 1 #[.val (.double d0), .second, .unset, .unset, .unset, .unset, .unset, .unset, .unset, .unset] [(.double d0)])) rfl (by rw [hml]; rfl) (rest := []) rfl (hb hby d4_1) (by decide) (Nat.le_of_ble_eq_true rfl)
  obtain ⟨T2, hT2⟩ : ∃ z, z = s₁.setVm vm2 := ⟨_, rfl⟩
  rw [← hT2] at X2 st2
  have e2 : T2.heap = h0 := by rw [hT2]; exact e0
  have a3 : ∀ t, Steps p.tables e below (T2.setTop (mkF m 4 #[.val (.double d0), .second, .unset, .unset, .unset, .unset, .unset, .unset, .unset, .unset] [(.long (d0.toInt64))])) t → Steps p.tables e below (s₁.setTop (entryFrame m #[(.double d0)] 10)) t := fun t k => a1 t (st2 t k)
  have a4 : ∀ t, Steps p.tables e below (T2.setTop (mkF m 13 #[.val (.double d0), .second, .val (.long (d0.toInt64)), .second, .unset, .unset, .unset, .unset, .unset, .unset] [(.long (((d0.toInt64) &&& (9218868437227405312 : Int64)) >>> ((52 : Int32) &&& 0x3f).toInt64))])) t → Steps p.tables e below (s₁.setTop (entryFrame m #[(.double d0)] 10)) t := by
    intro t k
    refine a3 t ?_
    show Steps p.tables e below (T2.setTop (mkF m 4 #[.val (.double d0), .second, .unset, .unset, .unset, .unset, .unset, .unset, .unset, .unset] [(.long (d0.toInt64))])) _
    refine XS.lstoreN X2.here hx rfl (hb hby d4_4) rfl (l' := #[.val (.double d0), .second, .val (.long (d0.toInt64)), .second, .unset, .unset, .unset, .unset, .unset, .unset]) rfl ?_
    refine XS.lloadN X2.here hx rfl (hb hby d4_5) rfl ?_
    refine X2.ldc2Long hx hown (mvT hZ (hw _ (List.mem_of_getElem? (i := 25) rfl))) (g := (mkF m 6 #[.val (.double d0), .second, .val (.long (d0.toInt64)), .second, .unset, .unset, .unset, .unset, .unset, .unset] [(.long (d0.toInt64))])) rfl (hb hby d4_6) _ ?_
    refine XS.land X2.here hx rfl (hb hby d4_9) rfl ?_
    refine XS.bipush X2.here hx rfl (hb hby d4_10) ?_
    refine XS.lshr X2.here hx rfl (hb hby d4_12) rfl ?_
    exact k
  obtain ⟨be, h_be⟩ : ∃ z : Int64, z = (((d0.toInt64) &&& (9218868437227405312 : Int64)) >>> ((52 : Int32) &&& 0x3f).toInt64) := ⟨_, rfl⟩
  rw [← h_be] at a4
  have a5 : ∀ t, Steps p.tables e below (T2.setTop (mkF m 21 #[.val (.double d0), .second, .val (.long (d0.toInt64)), .second, .val (.long be), .second, .unset, .unset, .unset, .unset] [(.long ((1074 : Int64) - be))])) t → Steps p.tables e below (s₁.setTop (entryFrame m #[(.double d0)] 10)) t := by
    intro t k
    refine a4 t ?_
    show Steps p.tables e below (T2.setTop (mkF m 13 #[.val (.double d0), .second, .val (.long (d0.toInt64)), .second, .unset, .unset, .unset, .unset, .unset, .unset] [(.long be)])) _
    refine XS.lstore X2.here hx rfl (hb hby d4_13) rfl (l' := #[.val (.double d0), .second, .val (.long (d0.toInt64)), .second, .val (.long be), .second, .unset, .unset, .unset, .unset]) rfl ?_
    refine X2.ldc2Long hx hown (mvT hZ (hw _ (List.mem_of_getElem? (i := 26) rfl))) (g := (mkF m 15 #[.val (.double d0), .second, .val (.long (d0.toInt64)), .second, .val (.long be), .second, .unset, .unset, .unset, .unset] [])) rfl (hb hby d4_15) _ ?_
    refine XS.lload X2.here hx rfl (hb hby d4_18) rfl ?_
    refine XS.lsub X2.here hx rfl (hb hby d4_20) rfl ?_
    exact k
  obtain ⟨sh, h_sh⟩ : ∃ z : Int64, z = ((1074 : Int64) - be) := ⟨_, rfl⟩
  rw [← h_sh] at a5
  have a6 : ∀ t, Steps p.tables e below (T2.setTop (mkF m 31 #[.val (.double d0), .second, .val (.long (d0.toInt64)), .second, .val (.long be), .second, .val (.long sh), .second, .unset, .unset] [(.int (lcmpW (sh &&& (-64 : Int64)) (0 : Int64)))])) t → Steps p.tables e below (s₁.setTop (entryFrame m #[(.double d0)] 10)) t := by
    intro t k
    refine a5 t ?_
    show Steps p.tables e below (T2.setTop (mkF m 21 #[.val (.double d0), .second, .val (.long (d0.toInt64)), .second, .val (.long be), .second, .unset, .unset, .unset, .unset] [(.long sh)])) _
    refine XS.lstore X2.here hx rfl (hb hby d4_21) rfl (l' := #[.val (.double d0), .second, .val (.long (d0.toInt64)), .second, .val (.long be), .second, .val (.long sh), .second, .unset, .unset]) rfl ?_
    refine XS.lload X2.here hx rfl (hb hby d4_23) rfl ?_
    refine X2.ldc2Long hx hown (mvT hZ (hw _ (List.mem_of_getElem? (i := 27) rfl))) (g := (mkF m 25 #[.val (.double d0), .second, .val (.long (d0.toInt64)), .second, .val (.long be), .second, .val (.long sh), .second, .unset, .unset] [(.long sh)])) rfl (hb hby d4_25) _ ?_
    refine XS.land X2.here hx rfl (hb hby d4_28) rfl ?_
    refine XS.lconst X2.here hx rfl (hb hby d4_29) ?_
    refine XS.lcmp X2.here hx rfl (hb hby d4_30) rfl ?_
    exact k
  by_cases hc31_7 : (sh &&& (-64 : Int64)) = (0 : Int64)
  ·
    have a8 : ∀ t, Steps p.tables e below (T2.setTop (mkF m 48 #[.val (.double d0), .second, .val (.long (d0.toInt64)), .second, .val (.long be), .second, .val (.long sh), .second, .val (.long (((d0.toInt64) &&& (4503599627370495 : Int64)) ||| (4503599627370496 : Int64))), .second] [(.int (lcmpW (d0.toInt64) (0 : Int64)))])) t → Steps p.tables e below (s₁.setTop (entryFrame m #[(.double d0)] 10)) t := by
      intro t k
      refine a6 t ?_
      show Steps p.tables e below (T2.setTop (mkF m 31 #[.val (.double d0), .second, .val (.long (d0.toInt64)), .second, .val (.long be), .second, .val (.long sh), .second, .unset, .unset] [(.int (lcmpW (sh &&& (-64 : Int64)) (0 : Int64)))])) _
      refine XS.ifNo X2.here hx rfl (hb hby d4_31) rfl ((if0 _ _).trans (teq ((lw_eq (sh &&& (-64 : Int64)) (0 : Int64)).mpr hc31_7)).2) ?_
      refine XS.lloadN X2.here hx rfl (hb hby d4_34) rfl ?_
      refine X2.ldc2Long hx hown (mvT hZ (hw _ (List.mem_of_getElem? (i := 28) rfl))) (g := (mkF m 35 #[.val (.double d0), .second, .val (.long (d0.toInt64)), .second, .val (.long be), .second, .val (.long sh), .second, .unset, .unset] [(.long (d0.toInt64))])) rfl (hb hby d4_35) _ ?_
      refine XS.land X2.here hx rfl (hb hby d4_38) rfl ?_
      refine X2.ldc2Long hx hown (mvT hZ (hw _ (List.mem_of_getElem? (i := 29) rfl))) (g := (mkF m 39 #[.val (.double d0), .second, .val (.long (d0.toInt64)), .second, .val (.long be), .second, .val (.long sh), .second, .unset, .unset] [(.long ((d0.toInt64) &&& (4503599627370495 : Int64)))])) rfl (hb hby d4_39) _ ?_
      refine XS.lor X2.here hx rfl (hb hby d4_42) rfl ?_
      refine XS.lstore X2.here hx rfl (hb hby d4_43) rfl (l' := #[.val (.double d0), .second, .val (.long (d0.toInt64)), .second, .val (.long be), .second, .val (.long sh), .second, .val (.long (((d0.toInt64) &&& (4503599627370495 : Int64)) ||| (4503599627370496 : Int64))), .second]) rfl ?_
      refine XS.lloadN X2.here hx rfl (hb hby d4_45) rfl ?_
      refine XS.lconst X2.here hx rfl (hb hby d4_46) ?_
      refine XS.lcmp X2.here hx rfl (hb hby d4_47) rfl ?_
      exact k
    by_cases hc48_9 : (d0.toInt64) < (0 : Int64)
    ·
      have a10 : ∀ t, Steps p.tables e below (T2.setTop (mkF m 66 #[.val (.double d0), .second, .val (.long (d0.toInt64)), .second, .val (.long be), .second, .val (.long sh), .second, .val (.long (-(((d0.toInt64) &&& (4503599627370495 : Int64)) ||| (4503599627370496 : Int64)))), .second] [(.long ((((-(((d0.toInt64) &&& (4503599627370495 : Int64)) ||| (4503599627370496 : Int64))) >>> ((sh.toInt32) &&& 0x3f).toInt64) + (1 : Int64)) >>> ((1 : Int32) &&& 0x3f).toInt64))])) t → Steps p.tables e below (s₁.setTop (entryFrame m #[(.double d0)] 10)) t := by
        intro t k
        refine a8 t ?_
        show Steps p.tables e below (T2.setTop (mkF m 48 #[.val (.double d0), .second, .val (.long (d0.toInt64)), .second, .val (.long be), .second, .val (.long sh), .second, .val (.long (((d0.toInt64) &&& (4503599627370495 : Int64)) ||| (4503599627370496 : Int64))), .second] [(.int (lcmpW (d0.toInt64) (0 : Int64)))])) _
        refine XS.ifNo X2.here hx rfl (hb hby d4_48) rfl ((if0 _ _).trans (tlt ((lw_lt (d0.toInt64) (0 : Int64)).mpr hc48_9)).2.1) ?_
        refine XS.lload X2.here hx rfl (hb hby d4_51) rfl ?_
        refine XS.lneg X2.here hx rfl (hb hby d4_53) rfl ?_
        refine XS.lstore X2.here hx rfl (hb hby d4_54) rfl (l' := #[.val (.double d0), .second, .val (.long (d0.toInt64)), .second, .val (.long be), .second, .val (.long sh), .second, .val (.long (-(((d0.toInt64) &&& (4503599627370495 : Int64)) ||| (4503599627370496 : Int64)))), .second]) rfl ?_
        refine XS.lload X2.here hx rfl (hb hby d4_56) rfl ?_
        refine XS.lload X2.here hx rfl (hb hby d4_58) rfl ?_
        refine XS.l2i X2.here hx rfl (hb hby d4_60) rfl ?_
        refine XS.lshr X2.here hx rfl (hb hby d4_61) rfl ?_
        refine XS.lconst X2.here hx rfl (hb hby d4_62) ?_
        refine XS.ladd X2.here hx rfl (hb hby d4_63) rfl ?_
        refine XS.iconst X2.here hx rfl (hb hby d4_64) ?_
        refine XS.lshr X2.here hx rfl (hb hby d4_65) rfl ?_
        exact k
      obtain ⟨fs, hr, hrun, hended, hW, hsame⟩ := X2.leave (v := some (.long ((((-(((d0.toInt64) &&& (4503599627370495 : Int64)) ||| (4503599627370496 : Int64))) >>> ((sh.toInt32) &&& 0x3f).toInt64) + (1 : Int64)) >>> ((1 : Int32) &&& 0x3f).toInt64))) (fun h => by rw [Bd.returns] at h; cases h)
      refine ⟨_, _, a10 _ ?_, hrun, hended, _, _, rfl, ?_, ⟨_, rfl⟩, hW, hsame.mono (by decide) (by decide)⟩
      · show Steps p.tables e below (T2.setTop (mkF m 66 #[.val (.double d0), .second, .val (.long (d0.toInt64)), .second, .val (.long be), .second, .val (.long sh), .second, .val (.long (-(((d0.toInt64) &&& (4503599627370495 : Int64)) ||| (4503599627370496 : Int64)))), .second] [(.long ((((-(((d0.toInt64) &&& (4503599627370495 : Int64)) ||| (4503599627370496 : Int64))) >>> ((sh.toInt32) &&& 0x3f).toInt64) + (1 : Int64)) >>> ((1 : Int32) &&& 0x3f).toInt64))])) _
        exact retOut X2 hx Bd.returns rfl (Or.inr (Or.inl ⟨rfl, rfl, _, rfl⟩)) (hb hby d4_66) hr
      · show QRound Z d0 n k_ h0 n0 _ T2.heap _
        rw [e2]
        rcases rnd_sh hx10 hn h_be h_sh with ⟨-, q, -⟩ | ⟨-, k, q⟩
        · exact absurd hc31_7 q
        · exact ⟨congrArg some (congrArg Value.long (Int64.toInt_inj.mp (by rw [hk]; exact rnd_neg q hn hc48_9))), N0, rfl⟩
    ·
      have a11 : ∀ t, Steps p.tables e below (T2.setTop (mkF m 66 #[.val (.double d0), .second, .val (.long (d0.toInt64)), .second, .val (.long be), .second, .val (.long sh), .second, .val (.long (((d0.toInt64) &&& (4503599627370495 : Int64)) ||| (4503599627370496 : Int64))), .second] [(.long ((((((d0.toInt64) &&& (4503599627370495 : Int64)) ||| (4503599627370496 : Int64)) >>> ((sh.toInt32) &&& 0x3f).toInt64) + (1 : Int64)) >>> ((1 : Int32) &&& 0x3f).toInt64))])) t → Steps p.tables e below (s₁.setTop (entryFrame m #[(.double d0)] 10)) t := by
        intro t k
        refine a8 t ?_
        show Steps p.tables e below (T2.setTop (mkF m 48 #[.val (.double d0), .second, .val (.long (d0.toInt64)), .second, .val (.long be), .second, .val (.long sh), .second, .val (.long (((d0.toInt64) &&& (4503599627370495 : Int64)) ||| (4503599627370496 : Int64))), .second] [(.int (lcmpW (d0.toInt64) (0 : Int64)))])) _
        refine XS.ifYes X2.here hx rfl (pc0 := 48) (pc' := 56) rfl (hb hby d4_48) rfl ((if0 _ _).trans (flt (fun q => hc48_9 ((lw_lt (d0.toInt64) (0 : Int64)).mp q))).2.1) (by decide) (by decide) ?_
        refine XS.lload X2.here hx rfl (hb hby d4_56) rfl ?_
        refine XS.lload X2.here hx rfl (hb hby d4_58) rfl ?_
        refine XS.l2i X2.here hx rfl (hb hby d4_60) rfl ?_
        refine XS.lshr X2.here hx rfl (hb hby d4_61) rfl ?_
        refine XS.lconst X2.here hx rfl (hb hby d4_62) ?_
        refine XS.ladd X2.here hx rfl (hb hby d4_63) rfl ?_
        refine XS.iconst X2.here hx rfl (hb hby d4_64) ?_
        refine XS.lshr X2.here hx rfl (hb hby d4_65) rfl ?_
        exact k
      obtain ⟨fs, hr, hrun, hended, hW, hsame⟩ := X2.leave (v := some (.long ((((((d0.toInt64) &&& (4503599627370495 : Int64)) ||| (4503599627370496 : Int64)) >>> ((sh.toInt32) &&& 0x3f).toInt64) + (1 : Int64)) >>> ((1 : Int32) &&& 0x3f).toInt64))) (fun h => by rw [Bd.returns] at h; cases h)
      refine ⟨_, _, a11 _ ?_, hrun, hended, _, _, rfl, ?_, ⟨_, rfl⟩, hW, hsame.mono (by decide) (by decide)⟩
      · show Steps p.tables e below (T2.setTop (mkF m 66 #[.val (.double d0), .second, .val (.long (d0.toInt64)), .second, .val (.long be), .second, .val (.long sh), .second, .val (.long (((d0.toInt64) &&& (4503599627370495 : Int64)) ||| (4503599627370496 : Int64))), .second] [(.long ((((((d0.toInt64) &&& (4503599627370495 : Int64)) ||| (4503599627370496 : Int64)) >>> ((sh.toInt32) &&& 0x3f).toInt64) + (1 : Int64)) >>> ((1 : Int32) &&& 0x3f).toInt64))])) _
        exact retOut X2 hx Bd.returns rfl (Or.inr (Or.inl ⟨rfl, rfl, _, rfl⟩)) (hb hby d4_66) hr
      · show QRound Z d0 n k_ h0 n0 _ T2.heap _
        rw [e2]
        rcases rnd_sh hx10 hn h_be h_sh with ⟨-, q, -⟩ | ⟨-, k, q⟩
        · exact absurd hc31_7 q
        · exact ⟨congrArg some (congrArg Value.long (Int64.toInt_inj.mp (by rw [hk]; exact rnd_pos q hn hc48_9))), N0, rfl⟩
  ·
    have a12 : ∀ t, Steps p.tables e below (T2.setTop (mkF m 69 #[.val (.double d0), .second, .val (.long (d0.toInt64)), .second, .val (.long be), .second, .val (.long sh), .second, .unset, .unset] [(.long (FP.d2l d0))])) t → Steps p.tables e below (s₁.setTop (entryFrame m #[(.double d0)] 10)) t := by
      intro t k
      refine a6 t ?_
      show Steps p.tables e below (T2.setTop (mkF m 31 #[.val (.double d0), .second, .val (.long (d0.toInt64)), .second, .val (.long be), .second, .val (.long sh), .second, .unset, .unset] [(.int (lcmpW (sh &&& (-64 : Int64)) (0 : Int64)))])) _
      refine XS.ifYes X2.here hx rfl (pc0 := 31) (pc' := 67) rfl (hb hby d4_31) rfl ((if0 _ _).trans (feq (fun q => hc31_7 ((lw_eq (sh &&& (-64 : Int64)) (0 : Int64)).mp q))).2) (by decide) (by decide) ?_
      refine XS.dloadN X2.here hx rfl (hb hby d4_67) rfl ?_
      refine XS.d2lS X2.here hx rfl (hb hby d4_68) rfl rfl ?_
      exact k
    obtain ⟨fs, hr, hrun, hended, hW, hsame⟩ := X2.leave (v := some (.long (FP.d2l d0))) (fun h => by rw [Bd.returns] at h; cases h)
    refine ⟨_, _, a12 _ ?_, hrun, hended, _, _, rfl, ?_, ⟨_, rfl⟩, hW, hsame.mono (by decide) (by decide)⟩
    · show Steps p.tables e below (T2.setTop (mkF m 69 #[.val (.double d0), .second, .val (.long (d0.toInt64)), .second, .val (.long be), .second, .val (.long sh), .second, .unset, .unset] [(.long (FP.d2l d0))])) _
      exact retOut X2 hx Bd.returns rfl (Or.inr (Or.inl ⟨rfl, rfl, _, rfl⟩)) (hb hby d4_69) hr
    · show QRound Z d0 n k_ h0 n0 _ T2.heap _
      rw [e2]
      rcases rnd_sh hx10 hn h_be h_sh with ⟨z, -, q⟩ | ⟨q, -⟩
      · exact ⟨congrArg some (congrArg Value.long (Int64.toInt_inj.mp (by rw [q, hk, z]; rfl))), N0, rfl⟩
      · exact absurd q hc31_7
theorem ef_rmN0 (m : MethodId) (x0 : Addr) (x1 : Int32) : entryFrame m #[(.ref x0), (.int x1)] 8 = mkF m 0 #[.val (.ref x0), .val (.int x1), .unset, .unset, .unset, .unset, .unset, .unset] [] := by first | (simp [entryFrame, mkF, argsToLocals, Value.category]; done) | rfl
theorem d3_0 : decode prog_30_method_5_code 0 = .ok (.aload_n 0, 1) := by decide +kernel
theorem d3_1 : decode prog_30_method_5_code 1 = .ok (.arraylength, 1) := by decide +kernel
theorem d3_2 : decode prog_30_method_5_code 2 = .ok (.newarray .double, 2) := by decide +kernel
theorem d3_4 : decode prog_30_method_5_code 4 = .ok (.astore_n 2, 1) := by decide +kernel
theorem d3_5 : decode prog_30_method_5_code 5 = .ok (.lconst 0, 1) := by decide +kernel
theorem d3_6 : decode prog_30_method_5_code 6 = .ok (.lstore_n 3, 1) := by decide +kernel
theorem d3_7 : decode prog_30_method_5_code 7 = .ok (.iconst 0, 1) := by decide +kernel
theorem d3_8 : decode prog_30_method_5_code 8 = .ok (.istore 5, 2) := by decide +kernel
theorem d3_10 : decode prog_30_method_5_code 10 = .ok (.iload 5, 2) := by decide +kernel
theorem d3_12 : decode prog_30_method_5_code 12 = .ok (.aload_n 0, 1) := by decide +kernel
theorem d3_13 : decode prog_30_method_5_code 13 = .ok (.arraylength, 1) := by decide +kernel
theorem d3_14 : decode prog_30_method_5_code 14 = .ok (.if_icmp .ge 53, 3) := by decide +kernel
theorem d3_67 : decode prog_30_method_5_code 67 = .ok (.lload_n 3, 1) := by decide +kernel
theorem d3_68 : decode prog_30_method_5_code 68 = .ok (.iload_n 1, 1) := by decide +kernel
theorem d3_69 : decode prog_30_method_5_code 69 = .ok (.i2l, 1) := by decide +kernel
theorem d3_70 : decode prog_30_method_5_code 70 = .ok (.lcmp, 1) := by decide +kernel
theorem d3_71 : decode prog_30_method_5_code 71 = .ok (.ifCond .ne 7, 3) := by decide +kernel
theorem d3_74 : decode prog_30_method_5_code 74 = .ok (.aload_n 2, 1) := by decide +kernel
theorem d3_75 : decode prog_30_method_5_code 75 = .ok (.goto 4, 3) := by decide +kernel
theorem d3_79 : decode prog_30_method_5_code 79 = .ok (.areturn, 1) := by decide +kernel
theorem d3_78 : decode prog_30_method_5_code 78 = .ok (.aconst_null, 1) := by decide +kernel
theorem own_pn_com_example_tillerfront_tillerfront_engine_ReferencePoints : plainName "com/example/tillerfront/tillerfront/engine/ReferencePoints" = true := by first | (simp [plainName, overriddenIn]; done) | decide +kernel
def QN0 (Z : State) (ar_ : Addr) (p1 : Int32) (kk : ClassId) (h0 : Heap) (n0 : Nat) (v : Option Value) (h : Heap) (L : List Loc) : Prop := (v = some .null ∧ ¬ OwnG0 p1 ∧ Fr n0 L ∧ Keep h0 h []) ∨ (∃ (b : Addr) (kb : ClassId), v = some (.ref b) ∧ OwnG0 p1 ∧ Fr n0 L ∧ Keep h0 h [] ∧ Arv Z h b kb .double (0 : Int32) [] (.double (0 : UInt64)))
set_option maxRecDepth 65536 in
set_option maxHeartbeats 40000000 in
theorem rmN0 (l : Launch) (Z : State) (a0 : Array Value) (hw : ∀ d ∈ tables_1, d.before a0 Z = true) (ws : List Jvm.Cond) (ar_ : Addr) (p1 : Int32) (kk : ClassId) (h0 : Heap) (n0 : Nat) (Z0 : n0 ≤ h0.size) (A0 : Arv Z h0 ar_ kk .double (0 : Int32) [] (.double (0 : UInt64))) (hdd : OwnD p1) :
    MetFree l (⟨"com/example/tillerfront/tillerfront/engine/ReferencePoints", "nearest", "([DI)[D"⟩ : MethodName) (head1 (Jvm.Cond.code (⟨"com/example/tillerfront/tillerfront/engine/ReferencePoints", "nearest", "([DI)[D"⟩ : MethodName) prog_30_method_5_code 8 (some (.array .double)) :: ws) ({ frames := 2, cells := 1, slots := 3, locals := 60 } : Room)) (fun a U => a = #[(.ref ar_), (.int p1)] ∧ Z.Warmed39 U.vm ∧ U.heap = h0) (fun _ _ _ _ _ => True) (fun _ U o U' => ∃ v L, o = .returned v ∧ QN0 Z ar_ p1 kk h0 n0 v U'.heap L ∧ FrameEnd U o U' L ({ frames := 2, cells := 1, slots := 3, locals := 60 } : Room).cells ({ frames := 2, cells := 1, slots := 3, locals := 60 } : Room).slots) := by
  refine MetFree.of_bodySF (plainFor_of_name own_pn_com_example_tillerfront_tillerfront_engine_ReferencePoints) hisR ?_
  intro p e s m args below meth c s₁ Bd hml0 hP hK
  obtain ⟨rfl, hZ, hh⟩ := hP
  have hx := Bd.exec
  have hby := Bd.bytes
  have hml : c.maxLocals = 8 := hml0
  have hown : s.vm.findClass "com/example/tillerfront/tillerfront/engine/ReferencePoints" = some m.cls := findClass_of_methodNamed Bd.named
  have hnm := (name_of_methodNamed Bd.named Bd.method).1
  have X0 : Stand p l e ({ frames := 2, cells := 1, slots := 3, locals := 60 } : Room) s m #[(.ref ar_), (.int p1)] below meth c s₁ [] 0 0 := Stand.of_body Bd
  have e0 : s₁.heap = h0 := by rw [← hh, Bd.state]; rfl
  have N0 := Fr.nil n0
  have pre0 : ∀ t, Steps p.tables e below (s₁.setTop (mkF m 0 #[.val (.ref ar_), .val (.int p1), .unset, .unset, .unset, .unset, .unset, .unset] [])) t → Steps p.tables e below (s₁.setTop (entryFrame m #[(.ref ar_), (.int p1)] 8)) t := fun t k => castTop (ef_rmN0 m ar_ p1) k
  have a1 : ∀ t, Steps p.tables e below (s₁.setTop (mkF m 1 #[.val (.ref ar_), .val (.int p1), .unset, .unset, .unset, .unset, .unset, .unset] [(.ref ar_)])) t → Steps p.tables e below (s₁.setTop (entryFrame m #[(.ref ar_), (.int p1)] 8)) t := by
    intro t k
    refine pre0 t ?_
    show Steps p.tables e below (s₁.setTop (mkF m 0 #[.val (.ref ar_), .val (.int p1), .unset, .unset, .unset, .unset, .unset, .unset] [])) _
    refine XS.aloadN X0.here hx rfl (hb hby d3_0) rfl rfl ?_
    exact k
  obtain ⟨cl2, Ar2, qc2, Sz2, Nn2, Hs2, Gs2⟩ := id A0
  have a3 : ∀ t, Steps p.tables e below (s₁.setTop (mkF m 2 #[.val (.ref ar_), .val (.int p1), .unset, .unset, .unset, .unset, .unset, .unset] [(.int (0 : Int32))])) t → Steps p.tables e below (s₁.setTop (entryFrame m #[(.ref ar_), (.int p1)] 8)) t := by
    intro t k
    refine a1 t ?_
    show Steps p.tables e below (s₁.setTop (mkF m 1 #[.val (.ref ar_), .val (.int p1), .unset, .unset, .unset, .unset, .unset, .unset] [(.ref ar_)])) _
    refine X0.arraylength hx (by rw [e0]; exact Ar2.1) (State.isArrayOf_alike hZ.alike Ar2.2.1) (g := (mkF m 1 #[.val (.ref ar_), .val (.int p1), .unset, .unset, .unset, .unset, .unset, .unset] [(.ref ar_)])) rfl rfl (hb hby d3_1) _ ?_
    rw [len_of Sz2 Nn2]
    exact k
  obtain ⟨T4, h4, kk4, X4, e4, E4, A4, st4⟩ := newP X0 hx hZ (hw _ (List.mem_of_getElem? (i := 11) rfl)) e0 (g := (mkF m 2 #[.val (.ref ar_), .val (.int p1), .unset, .unset, .unset, .unset, .unset, .unset] [(.int (0 : Int32))])) rfl (hb hby d3_2) rfl (by decide) (cap := 0) (by decide) (by decide) (by decide) (by decide)
  obtain ⟨b4, g4⟩ : ∃ z, z = h0.size := ⟨_, rfl⟩
  rw [← g4] at A4 st4
  have g_b4 : n0 ≤ b4 := Nat.le_trans Z0 (Nat.le_of_eq g4.symm)
  have sz_b4 : h0.size ≤ b4 := Nat.le_trans ((Keep.refl h0 [])).1 (Nat.le_of_eq g4.symm)
  have V_b4 : Arv Z h4 b4 kk4 .double (0 : Int32) [] (.double (0 : UInt64)) := (Arv.new A4 (by decide))
  have K4 : Keep h0 h4 [] := Keep.ext (Keep.refl h0 []) E4
  have a5 : ∀ t, Steps p.tables e below (T4.setTop (mkF m 4 #[.val (.ref ar_), .val (.int p1), .unset, .unset, .unset, .unset, .unset, .unset] [(.ref b4)])) t → Steps p.tables e below (s₁.setTop (entryFrame m #[(.ref ar_), (.int p1)] 8)) t := fun t k => a3 t (st4 t k)
  have a6 : ∀ t, Steps p.tables e below (T4.setTop (mkF m 13 #[.val (.ref ar_), .val (.int p1), .val (.ref b4), .val (.long (0 : Int64)), .second, .val (.int (0 : Int32)), .unset, .unset] [(.ref ar_), (.int (0 : Int32))])) t → Steps p.tables e below (s₁.setTop (entryFrame m #[(.ref ar_), (.int p1)] 8)) t := by
    intro t k
    refine a5 t ?_
    show Steps p.tables e below (T4.setTop (mkF m 4 #[.val (.ref ar_), .val (.int p1), .unset, .unset, .unset, .unset, .unset, .unset] [(.ref b4)])) _
    refine XS.astoreN X4.here hx rfl (hb hby d3_4) rfl rfl (l' := #[.val (.ref ar_), .val (.int p1), .val (.ref b4), .unset, .unset, .unset, .unset, .unset]) rfl ?_
    refine XS.lconst X4.here hx rfl (hb hby d3_5) ?_
    refine XS.lstoreN X4.here hx rfl (hb hby d3_6) rfl (l' := #[.val (.ref ar_), .val (.int p1), .val (.ref b4), .val (.long (0 : Int64)), .second, .unset, .unset, .unset]) rfl ?_
    refine XS.iconst X4.here hx rfl (hb hby d3_7) ?_
    refine XS.istore X4.here hx rfl (hb hby d3_8) rfl (l' := #[.val (.ref ar_), .val (.int p1), .val (.ref b4), .val (.long (0 : Int64)), .second, .val (.int (0 : Int32)), .unset, .unset]) rfl ?_
    refine XS.iload X4.here hx rfl (hb hby d3_10) rfl ?_
    refine XS.aloadN X4.here hx rfl (hb hby d3_12) rfl rfl ?_
    exact k
  obtain ⟨cl7, Ar7, qc7, Sz7, Nn7, Hs7, Gs7⟩ := id (A0.ext E4)
  have a8 : ∀ t, Steps p.tables e below (T4.setTop (mkF m 71 #[.val (.ref ar_), .val (.int p1), .val (.ref b4), .val (.long (0 : Int64)), .second, .val (.int (0 : Int32)), .unset, .unset] [(.int (lcmpW (0 : Int64) (p1.toInt64)))])) t → Steps p.tables e below (s₁.setTop (entryFrame m #[(.ref ar_), (.int p1)] 8)) t := by
    intro t k
    refine a6 t ?_
    show Steps p.tables e below (T4.setTop (mkF m 13 #[.val (.ref ar_), .val (.int p1), .val (.ref b4), .val (.long (0 : Int64)), .second, .val (.int (0 : Int32)), .unset, .unset] [(.ref ar_), (.int (0 : Int32))])) _
    refine X4.arraylength hx (by rw [e4]; exact Ar7.1) (State.isArrayOf_alike hZ.alike Ar7.2.1) (g := (mkF m 13 #[.val (.ref ar_), .val (.int p1), .val (.ref b4), .val (.long (0 : Int64)), .second, .val (.int (0 : Int32)), .unset, .unset] [(.ref ar_), (.int (0 : Int32))])) rfl rfl (hb hby d3_13) _ ?_
    rw [len_of Sz7 Nn7]
    refine XS.icmpYes X4.here hx rfl (pc0 := 14) (pc' := 67) rfl (hb hby d3_14) rfl (flt (by decide)).2.1 (by decide) (by decide) ?_
    refine XS.lloadN X4.here hx rfl (hb hby d3_67) rfl ?_
    refine XS.iloadN X4.here hx rfl (hb hby d3_68) rfl ?_
    refine XS.i2l X4.here hx rfl (hb hby d3_69) rfl ?_
    refine XS.lcmp X4.here hx rfl (hb hby d3_70) rfl ?_
    exact k
  by_cases hc71_9 : (0 : Int64) = (p1.toInt64)
  ·
    have a10 : ∀ t, Steps p.tables e below (T4.setTop (mkF m 79 #[.val (.ref ar_), .val (.int p1), .val (.ref b4), .val (.long (0 : Int64)), .second, .val (.int (0 : Int32)), .unset, .unset] [(.ref b4)])) t → Steps p.tables e below (s₁.setTop (entryFrame m #[(.ref ar_), (.int p1)] 8)) t := by
      intro t k
      refine a8 t ?_
      show Steps p.tables e below (T4.setTop (mkF m 71 #[.val (.ref ar_), .val (.int p1), .val (.ref b4), .val (.long (0 : Int64)), .second, .val (.int (0 : Int32)), .unset, .unset] [(.int (lcmpW (0 : Int64) (p1.toInt64)))])) _
      refine XS.ifNo X4.here hx rfl (hb hby d3_71) rfl ((if0 _ _).trans (teq ((lw_eq (0 : Int64) (p1.toInt64)).mpr hc71_9)).2) ?_
      refine XS.aloadN X4.here hx rfl (hb hby d3_74) rfl rfl ?_
      refine XS.goto X4.here hx rfl (pc0 := 75) (pc' := 79) rfl (hb hby d3_75) (by decide) (by decide) ?_
      exact k
    obtain ⟨fs, hr, hrun, hended, hW, hsame⟩ := X4.leave (v := some (.ref b4)) (fun h => by rw [Bd.returns] at h; cases h)
    refine ⟨_, _, a10 _ ?_, hrun, hended, _, _, rfl, ?_, ⟨_, rfl⟩, hW, hsame.mono (by decide) (by decide)⟩
    · show Steps p.tables e below (T4.setTop (mkF m 79 #[.val (.ref ar_), .val (.int p1), .val (.ref b4), .val (.long (0 : Int64)), .second, .val (.int (0 : Int32)), .unset, .unset] [(.ref b4)])) _
      exact retOut X4 hx Bd.returns rfl (Or.inr (Or.inr (Or.inr (Or.inr ⟨rfl, rfl, rfl⟩)))) (hb hby d3_79) hr
    · show QN0 Z ar_ p1 kk h0 n0 _ T4.heap _
      rw [e4]
      refine Or.inr ⟨_, _, rfl, ?_, N0, K4, V_b4⟩
      have hc := hc71_9
      rw [← Int64.toInt_inj, c_i2l] at hc
      have e : ((0 : Int64) : Int64).toInt = 0 := by
        decide
      rw [e] at hc
      exact hc
  ·
    have a11 : ∀ t, Steps p.tables e below (T4.setTop (mkF m 79 #[.val (.ref ar_), .val (.int p1), .val (.ref b4), .val (.long (0 : Int64)), .second, .val (.int (0 : Int32)), .unset, .unset] [.null])) t → Steps p.tables e below (s₁.setTop (entryFrame m #[(.ref ar_), (.int p1)] 8)) t := by
      intro t k
      refine a8 t ?_
      show Steps p.tables e below (T4.setTop (mkF m 71 #[.val (.ref ar_), .val (.int p1), .val (.ref b4), .val (.long (0 : Int64)), .second, .val (.int (0 : Int32)), .unset, .unset] [(.int (lcmpW (0 : Int64) (p1.toInt64)))])) _
      refine XS.ifYes X4.here hx rfl (pc0 := 71) (pc' := 78) rfl (hb hby d3_71) rfl ((if0 _ _).trans (feq (fun q => hc71_9 ((lw_eq (0 : Int64) (p1.toInt64)).mp q))).2) (by decide) (by decide) ?_
      refine XS.aconstNull X4.here hx rfl (hb hby d3_78) ?_
      exact k
    obtain ⟨fs, hr, hrun, hended, hW, hsame⟩ := X4.leave (v := some .null) (fun h => by rw [Bd.returns] at h; cases h)
    refine ⟨_, _, a11 _ ?_, hrun, hended, _, _, rfl, ?_, ⟨_, rfl⟩, hW, hsame.mono (by decide) (by decide)⟩
    · show Steps p.tables e below (T4.setTop (mkF m 79 #[.val (.ref ar_), .val (.int p1), .val (.ref b4), .val (.long (0 : Int64)), .second, .val (.int (0 : Int32)), .unset, .unset] [.null])) _
      exact retOut X4 hx Bd.returns rfl (Or.inr (Or.inr (Or.inr (Or.inr ⟨rfl, rfl, rfl⟩)))) (hb hby d3_79) hr
    · show QN0 Z ar_ p1 kk h0 n0 _ T4.heap _
      rw [e4]
      refine Or.inl ⟨rfl, ?_, N0, K4⟩
      unfold OwnG0
      have hc := hc71_9
      rw [← Int64.toInt_inj, c_i2l] at hc
      have e : ((0 : Int64) : Int64).toInt = 0 := by
        decide
      rw [e] at hc
      intro q
      exact hc q
theorem ef_rmN1 (m : MethodId) (x0 : Addr) (x1 : Int32) : entryFrame m #[(.ref x0), (.int x1)] 8 = mkF m 0 #[.val (.ref x0), .val (.int x1), .unset, .unset, .unset, .unset, .unset, .unset] [] := by first | (simp [entryFrame, mkF, argsToLocals, Value.category]; done) | rfl
theorem d3_17 : decode prog_30_method_5_code 17 = .ok (.aload_n 0, 1) := by decide +kernel
theorem d3_18 : decode prog_30_method_5_code 18 = .ok (.iload 5, 2) := by decide +kernel
theorem d3_20 : decode prog_30_method_5_code 20 = .ok (.daload, 1) := by decide +kernel
theorem d3_21 : decode prog_30_method_5_code 21 = .ok (.iload_n 1, 1) := by decide +kernel
theorem d3_22 : decode prog_30_method_5_code 22 = .ok (.i2d, 1) := by decide +kernel
theorem d3_23 : decode prog_30_method_5_code 23 = .ok (.dmul, 1) := by decide +kernel
theorem d3_24 : decode prog_30_method_5_code 24 = .ok (.invokestatic 88, 3) := by decide +kernel
theorem own_pd0 : parseMethodDescriptor "(D)J" = some ⟨[.double], some .long⟩ := by decide +kernel
theorem d3_27 : decode prog_30_method_5_code 27 = .ok (.lstore 6, 2) := by decide +kernel
theorem d3_29 : decode prog_30_method_5_code 29 = .ok (.lload 6, 2) := by decide +kernel
theorem d3_31 : decode prog_30_method_5_code 31 = .ok (.lconst 0, 1) := by decide +kernel
theorem d3_32 : decode prog_30_method_5_code 32 = .ok (.lcmp, 1) := by decide +kernel
theorem d3_33 : decode prog_30_method_5_code 33 = .ok (.ifCond .lt 11, 3) := by decide +kernel
theorem d3_44 : decode prog_30_method_5_code 44 = .ok (.aconst_null, 1) := by decide +kernel
theorem d3_45 : decode prog_30_method_5_code 45 = .ok (.areturn, 1) := by decide +kernel
theorem d3_36 : decode prog_30_method_5_code 36 = .ok (.lload 6, 2) := by decide +kernel
theorem d3_38 : decode prog_30_method_5_code 38 = .ok (.iload_n 1, 1) := by decide +kernel
theorem d3_39 : decode prog_30_method_5_code 39 = .ok (.i2l, 1) := by decide +kernel
theorem d3_40 : decode prog_30_method_5_code 40 = .ok (.lcmp, 1) := by decide +kernel
theorem d3_41 : decode prog_30_method_5_code 41 = .ok (.ifCond .le 5, 3) := by decide +kernel
theorem d3_46 : decode prog_30_method_5_code 46 = .ok (.lload_n 3, 1) := by decide +kernel
theorem d3_47 : decode prog_30_method_5_code 47 = .ok (.lload 6, 2) := by decide +kernel
theorem d3_49 : decode prog_30_method_5_code 49 = .ok (.ladd, 1) := by decide +kernel
theorem d3_50 : decode prog_30_method_5_code 50 = .ok (.lstore_n 3, 1) := by decide +kernel
theorem d3_51 : decode prog_30_method_5_code 51 = .ok (.aload_n 2, 1) := by decide +kernel
theorem d3_52 : decode prog_30_method_5_code 52 = .ok (.iload 5, 2) := by decide +kernel
theorem d3_54 : decode prog_30_method_5_code 54 = .ok (.lload 6, 2) := by decide +kernel
theorem d3_56 : decode prog_30_method_5_code 56 = .ok (.l2d, 1) := by decide +kernel
theorem d3_57 : decode prog_30_method_5_code 57 = .ok (.iload_n 1, 1) := by decide +kernel
theorem d3_58 : decode prog_30_method_5_code 58 = .ok (.i2d, 1) := by decide +kernel
theorem d3_59 : decode prog_30_method_5_code 59 = .ok (.ddiv, 1) := by decide +kernel
theorem d3_60 : decode prog_30_method_5_code 60 = .ok (.dastore, 1) := by decide +kernel
theorem d3_61 : decode prog_30_method_5_code 61 = .ok (.iinc 5 1, 3) := by decide +kernel
theorem d3_64 : decode prog_30_method_5_code 64 = .ok (.goto (-54), 3) := by decide +kernel
def QN1 (Z : State) (ar_ : Addr) (p1 : Int32) (kk : ClassId) (a0_ k0_ : Int64) (h0 : Heap) (n0 : Nat) (v : Option Value) (h : Heap) (L : List Loc) : Prop := (v = some .null ∧ ¬ OwnG1 k0_ p1 ∧ Fr n0 L ∧ Keep h0 h []) ∨ (∃ (b : Addr) (kb : ClassId), v = some (.ref b) ∧ OwnG1 k0_ p1 ∧ Fr n0 L ∧ Keep h0 h [] ∧ Arv Z h b kb .double (1 : Int32) [(.double (FP.ddiv (FP.l2d k0_) (FP.i2d p1)))] (.double (0 : UInt64)))
set_option maxRecDepth 65536 in
set_option maxHeartbeats 40000000 in
theorem rmN1 (l : Launch) (Z : State) (a0 : Array Value) (hw : ∀ d ∈ tables_1, d.before a0 Z = true) (ws : List Jvm.Cond) (ar_ : Addr) (p1 : Int32) (kk : ClassId) (a0_ k0_ : Int64) (h0 : Heap) (n0 : Nat) (Z0 : n0 ≤ h0.size) (A0 : Arv Z h0 ar_ kk .double (1 : Int32) [(.double (FP.ddiv (FP.l2d a0_) (4652218415073722368 : UInt64)))] (.double (0 : UInt64))) (hdd : OwnD p1) (hk0 : OwnK a0_ p1 k0_) :
    MetFree l (⟨"com/example/tillerfront/tillerfront/engine/ReferencePoints", "nearest", "([DI)[D"⟩ : MethodName) (head1 (Jvm.Cond.code (⟨"com/example/tillerfront/tillerfront/engine/ReferencePoints", "nearest", "([DI)[D"⟩ : MethodName) prog_30_method_5_code 8 (some (.array .double)) :: ws) ({ frames := 2, cells := 1, slots := 3, locals := 60 } : Room)) (fun a U => a = #[(.ref ar_), (.int p1)] ∧ Z.Warmed39 U.vm ∧ U.heap = h0) (fun _ _ _ _ _ => True) (fun _ U o U' => ∃ v L, o = .returned v ∧ QN1 Z ar_ p1 kk a0_ k0_ h0 n0 v U'.heap L ∧ FrameEnd U o U' L ({ frames := 2, cells := 1, slots := 3, locals := 60 } : Room).cells ({ frames := 2, cells := 1, slots := 3, locals := 60 } : Room).slots) := by
  refine MetFree.of_bodySF (plainFor_of_name own_pn_com_example_tillerfront_tillerfront_engine_ReferencePoints) hisR ?_
  intro p e s m args below meth c s₁ Bd hml0 hP hK
  obtain ⟨rfl, hZ, hh⟩ := hP
  have hx := Bd.exec
  have hby := Bd.bytes
  have hml : c.maxLocals = 8 := hml0
  have hown : s.vm.findClass "com/example/tillerfront/tillerfront/engine/ReferencePoints" = some m.cls := findClass_of_methodNamed Bd.named
  have hnm := (name_of_methodNamed Bd.named Bd.method).1
  have X0 : Stand p l e ({ frames := 2, cells := 1, slots := 3, locals := 60 } : Room) s m #[(.ref ar_), (.int p1)] below meth c s₁ [] 0 0 := Stand.of_body Bd
  have e0 : s₁.heap = h0 := by rw [← hh, Bd.state]; rfl
  have N0 := Fr.nil n0
  have pre0 : ∀ t, Steps p.tables e below (s₁.setTop (mkF m 0 #[.val (.ref ar_), .val (.int p1), .unset, .unset, .unset, .unset, .unset, .unset] [])) t → Steps p.tables e below (s₁.setTop (entryFrame m #[(.ref ar_), (.int p1)] 8)) t := fun t k => castTop (ef_rmN1 m ar_ p1) k
  have a1 : ∀ t, Steps p.tables e below (s₁.setTop (mkF m 1 #[.val (.ref ar_), .val (.int p1), .unset, .unset, .unset, .unset, .unset, .unset] [(.ref ar_)])) t → Steps p.tables e below (s₁.setTop (entryFrame m #[(.ref ar_), (.int p1)] 8)) t := by
    intro t k
    refine pre0 t ?_
    show Steps p.tables e below (s₁.setTop (mkF m 0 #[.val (.ref ar_), .val (.int p1), .unset, .unset, .unset, .unset, .unset, .unset] [])) _
    refine XS.aloadN X0.here hx rfl (hb hby d3_0) rfl rfl ?_
    exact k
  obtain ⟨cl2, Ar2, qc2, Sz2, Nn2, Hs2, Gs2⟩ := id A0
  have a3 : ∀ t, Steps p.tables e below (s₁.setTop (mkF m 2 #[.val (.ref ar_), .val (.int p1), .unset, .unset, .unset, .unset, .unset, .unset] [(.int (1 : Int32))])) t → Steps p.tables e below (s₁.setTop (entryFrame m #[(.ref ar_), (.int p1)] 8)) t := by
    intro t k
    refine a1 t ?_
    show Steps p.tables e below (s₁.setTop (mkF m 1 #[.val (.ref ar_), .val (.int p1), .unset, .unset, .unset, .unset, .unset, .unset] [(.ref ar_)])) _
    refine X0.arraylength hx (by rw [e0]; exact Ar2.1) (State.isArrayOf_alike hZ.alike Ar2.2.1) (g := (mkF m 1 #[.val (.ref ar_), .val (.int p1), .unset, .unset, .unset, .unset, .unset, .unset] [(.ref ar_)])) rfl rfl (hb hby d3_1) _ ?_
    rw [len_of Sz2 Nn2]
    exact k
  obtain ⟨T4, h4, kk4, X4, e4, E4, A4, st4⟩ := newP X0 hx hZ (hw _ (List.mem_of_getElem? (i := 11) rfl)) e0 (g := (mkF m 2 #[.val (.ref ar_), .val (.int p1), .unset, .unset, .unset, .unset, .unset, .unset] [(.int (1 : Int32))])) rfl (hb hby d3_2) rfl (by decide) (cap := 1) (by decide) (by decide) (by decide) (by decide)
  obtain ⟨b4, g4⟩ : ∃ z, z = h0.size := ⟨_, rfl⟩
  rw [← g4] at A4 st4
  have g_b4 : n0 ≤ b4 := Nat.le_trans Z0 (Nat.le_of_eq g4.symm)
  have sz_b4 : h0.size ≤ b4 := Nat.le_trans ((Keep.refl h0 [])).1 (Nat.le_of_eq g4.symm)
  have V_b4 : Arv Z h4 b4 kk4 .double (1 : Int32) [(.double (0 : UInt64))] (.double (0 : UInt64)) := (Arv.new A4 (by decide)).pad (pad_rep [] (.double (0 : UInt64)) 1)
  have K4 : Keep h0 h4 [] := Keep.ext (Keep.refl h0 []) E4
  have a5 : ∀ t, Steps p.tables e below (T4.setTop (mkF m 4 #[.val (.ref ar_), .val (.int p1), .unset, .unset, .unset, .unset, .unset, .unset] [(.ref b4)])) t → Steps p.tables e below (s₁.setTop (entryFrame m #[(.ref ar_), (.int p1)] 8)) t := fun t k => a3 t (st4 t k)
  have a6 : ∀ t, Steps p.tables e below (T4.setTop (mkF m 13 #[.val (.ref ar_), .val (.int p1), .val (.ref b4), .val (.long (0 : Int64)), .second, .val (.int (0 : Int32)), .unset, .unset] [(.ref ar_), (.int (0 : Int32))])) t → Steps p.tables e below (s₁.setTop (entryFrame m #[(.ref ar_), (.int p1)] 8)) t := by
    intro t k
    refine a5 t ?_
    show Steps p.tables e below (T4.setTop (mkF m 4 #[.val (.ref ar_), .val (.int p1), .unset, .unset, .unset, .unset, .unset, .unset] [(.ref b4)])) _
    refine XS.astoreN X4.here hx rfl (hb hby d3_4) rfl rfl (l' := #[.val (.ref ar_), .val (.int p1), .val (.ref b4), .unset, .unset, .unset, .unset, .unset]) rfl ?_
    refine XS.lconst X4.here hx rfl (hb hby d3_5) ?_
    refine XS.lstoreN X4.here hx rfl (hb hby d3_6) rfl (l' := #[.val (.ref ar_), .val (.int p1), .val (.ref b4), .val (.long (0 : Int64)), .second, .unset, .unset, .unset]) rfl ?_
    refine XS.iconst X4.here hx rfl (hb hby d3_7) ?_
    refine XS.istore X4.here hx rfl (hb hby d3_8) rfl (l' := #[.val (.ref ar_), .val (.int p1), .val (.ref b4), .val (.long (0 : Int64)), .second, .val (.int (0 : Int32)), .unset, .unset]) rfl ?_
    refine XS.iload X4.here hx rfl (hb hby d3_10) rfl ?_
    refine XS.aloadN X4.here hx rfl (hb hby d3_12) rfl rfl ?_
    exact k
  obtain ⟨cl7, Ar7, qc7, Sz7, Nn7, Hs7, Gs7⟩ := id (A0.ext E4)
  have a8 : ∀ t, Steps p.tables e below (T4.setTop (mkF m 20 #[.val (.ref ar_), .val (.int p1), .val (.ref b4), .val (.long (0 : Int64)), .second, .val (.int (0 : Int32)), .unset, .unset] [(.int (0 : Int32)), (.ref ar_)])) t → Steps p.tables e below (s₁.setTop (entryFrame m #[(.ref ar_), (.int p1)] 8)) t := by
    intro t k
    refine a6 t ?_
    show Steps p.tables e below (T4.setTop (mkF m 13 #[.val (.ref ar_), .val (.int p1), .val (.ref b4), .val (.long (0 : Int64)), .second, .val (.int (0 : Int32)), .unset, .unset] [(.ref ar_), (.int (0 : Int32))])) _
    refine X4.arraylength hx (by rw [e4]; exact Ar7.1) (State.isArrayOf_alike hZ.alike Ar7.2.1) (g := (mkF m 13 #[.val (.ref ar_), .val (.int p1), .val (.ref b4), .val (.long (0 : Int64)), .second, .val (.int (0 : Int32)), .unset, .unset] [(.ref ar_), (.int (0 : Int32))])) rfl rfl (hb hby d3_13) _ ?_
    rw [len_of Sz7 Nn7]
    refine XS.icmpNo X4.here hx rfl (hb hby d3_14) rfl (tlt (by decide)).2.1 ?_
    refine XS.aloadN X4.here hx rfl (hb hby d3_17) rfl rfl ?_
    refine XS.iload X4.here hx rfl (hb hby d3_18) rfl ?_
    exact k
  obtain ⟨cl9, Ar9, qc9, Sz9, Nn9, Hs9, Gs9⟩ := id (A0.ext E4)
  have hin9 : ¬ ((0 : Int32) < 0 ∨ cl9.slots.size ≤ ((0 : Int32)).toNatClampNeg) := inb_of Sz9 ⟨by decide, by decide⟩
  have hat9 := Hs9.at hin9 (v := (.double (FP.ddiv (FP.l2d a0_) (4652218415073722368 : UInt64)))) rfl
  have a10 : ∀ t, Steps p.tables e below (T4.setTop (mkF m 24 #[.val (.ref ar_), .val (.int p1), .val (.ref b4), .val (.long (0 : Int64)), .second, .val (.int (0 : Int32)), .unset, .unset] [(.double (FP.dmul (FP.ddiv (FP.l2d a0_) (4652218415073722368 : UInt64)) (FP.i2d p1)))])) t → Steps p.tables e below (s₁.setTop (entryFrame m #[(.ref ar_), (.int p1)] 8)) t := by
    intro t k
    refine a8 t ?_
    show Steps p.tables e below (T4.setTop (mkF m 20 #[.val (.ref ar_), .val (.int p1), .val (.ref b4), .val (.long (0 : Int64)), .second, .val (.int (0 : Int32)), .unset, .unset] [(.int (0 : Int32)), (.ref ar_)])) _
    refine X4.daload hx (j := (0 : Int32)) (v := (.double (FP.ddiv (FP.l2d a0_) (4652218415073722368 : UInt64)))) (by rw [e4]; exact Ar9.1) (State.isArrayOf_alike hZ.alike Ar9.2.1) Ar9.2.2 hin9 hat9 (g := (mkF m 20 #[.val (.ref ar_), .val (.int p1), .val (.ref b4), .val (.long (0 : Int64)), .second, .val (.int (0 : Int32)), .unset, .unset] [(.int (0 : Int32)), (.ref ar_)])) rfl rfl (hb hby d3_20) _ ?_
    refine XS.iloadN X4.here hx rfl (hb hby d3_21) rfl ?_
    refine XS.i2dS X4.here hx rfl (hb hby d3_22) rfl rfl ?_
    refine XS.dmulS X4.here hx rfl (hb hby d3_23) rfl (nn64 (own_xd hk0.1 hdd).1) rfl ?_
    exact k
  obtain ⟨_, _, ⟨T11, L11, k11, n11⟩, -, X11, ⟨Lc11, hQ11, l11, y11, z11⟩, st11⟩ := Jvm.LawKit.callS X4 hx (y := (⟨"java/lang/Math", "round", "(D)J"⟩ : MethodName)) hown (mvT hZ (hw _ (List.mem_of_getElem? (i := 17) rfl))) (mvT hZ (hw _ (List.mem_of_getElem? (i := 18) rfl))) (mvT hZ (hw _ (List.mem_of_getElem? (i := 19) rfl))) (mvT hZ (hw _ (List.mem_of_getElem? (i := 20) rfl))) (by decide) (backOf (W := 0) (rmRound l Z a0 hw [] (FP.dmul (FP.ddiv (FP.l2d a0_) (4652218415073722368 : UInt64)) (FP.i2d p1)) (a0_.toInt * p1.toInt) k0_ h4 n0 (Nat.le_trans Z0 E4.1) (own_xd hk0.1 hdd) (by have := own_prod_bd hk0.1 hdd; omega) hk0.2) hZ (hw _ (List.mem_of_getElem? (i := 20) rfl)) (hw _ (List.mem_of_getElem? (i := 19) rfl)) (by decide) (by decide)) (g := (mkF m 24 #[.val (.ref ar_), .val (.int p1), .val (.ref b4), .val (.long (0 : Int64)), .second, .val (.int (0 : Int32)), .unset, .unset] [(.double (FP.dmul (FP.ddiv (FP.l2d a0_) (4652218415073722368 : UInt64)) (FP.i2d p1)))])) rfl (by rw [hml]; rfl) (argsL := [(.double (FP.dmul (FP.ddiv (FP.l2d a0_) (4652218415073722368 : UInt64)) (FP.i2d p1)))]) (rest := []) (lenOf own_pd0 rfl) rfl (by show 2 * 0 + _ ≤ _; exact Nat.le_of_eq rfl) (hb hby d3_24) (fun _ _ => ⟨rfl, e4, (by decide : 1 + 0 ≤ _), (by decide : 1 + 0 ≤ _)⟩)
  dsimp only [Pt.U, Pt.locs, Pt.cells, Pt.slots] at X11 l11 y11 z11 st11 hQ11
  subst l11 y11 z11
  obtain ⟨rfl, N11q, e11q⟩ := hQ11
  have N11 := Fr.app N0 N11q
  have a12 : ∀ t, Steps p.tables e below (T11.setTop (mkF m 27 #[.val (.ref ar_), .val (.int p1), .val (.ref b4), .val (.long (0 : Int64)), .second, .val (.int (0 : Int32)), .unset, .unset] [(.long k0_)])) t → Steps p.tables e below (s₁.setTop (entryFrame m #[(.ref ar_), (.int p1)] 8)) t := fun t k => a10 t (st11 t k)
  have a13 : ∀ t, Steps p.tables e below (T11.setTop (mkF m 33 #[.val (.ref ar_), .val (.int p1), .val (.ref b4), .val (.long (0 : Int64)), .second, .val (.int (0 : Int32)), .val (.long k0_), .second] [(.int (lcmpW k0_ (0 : Int64)))])) t → Steps p.tables e below (s₁.setTop (entryFrame m #[(.ref ar_), (.int p1)] 8)) t := by
    intro t k
    refine a12 t ?_
    show Steps p.tables e below (T11.setTop (mkF m 27 #[.val (.ref ar_), .val (.int p1), .val (.ref b4), .val (.long (0 : Int64)), .second, .val (.int (0 : Int32)), .unset, .unset] [(.long k0_)])) _
    refine XS.lstore X11.here hx rfl (hb hby d3_27) rfl (l' := #[.val (.ref ar_), .val (.int p1), .val (.ref b4), .val (.long (0 : Int64)), .second, .val (.int (0 : Int32)), .val (.long k0_), .second]) rfl ?_
    refine XS.lload X11.here hx rfl (hb hby d3_29) rfl ?_
    refine XS.lconst X11.here hx rfl (hb hby d3_31) ?_
    refine XS.lcmp X11.here hx rfl (hb hby d3_32) rfl ?_
    exact k
  by_cases hc33_14 : k0_ < (0 : Int64)
  ·
    have a15 : ∀ t, Steps p.tables e below (T11.setTop (mkF m 45 #[.val (.ref ar_), .val (.int p1), .val (.ref b4), .val (.long (0 : Int64)), .second, .val (.int (0 : Int32)), .val (.long k0_), .second] [.null])) t → Steps p.tables e below (s₁.setTop (entryFrame m #[(.ref ar_), (.int p1)] 8)) t := by
      intro t k
      refine a13 t ?_
      show Steps p.tables e below (T11.setTop (mkF m 33 #[.val (.ref ar_), .val (.int p1), .val (.ref b4), .val (.long (0 : Int64)), .second, .val (.int (0 : Int32)), .val (.long k0_), .second] [(.int (lcmpW k0_ (0 : Int64)))])) _
      refine XS.ifYes X11.here hx rfl (pc0 := 33) (pc' := 44) rfl (hb hby d3_33) rfl ((if0 _ _).trans (tlt ((lw_lt k0_ (0 : Int64)).mpr hc33_14)).1) (by decide) (by decide) ?_
      refine XS.aconstNull X11.here hx rfl (hb hby d3_44) ?_
      exact k
    obtain ⟨fs, hr, hrun, hended, hW, hsame⟩ := X11.leave (v := some .null) (fun h => by rw [Bd.returns] at h; cases h)
    refine ⟨_, _, a15 _ ?_, hrun, hended, _, _, rfl, ?_, ⟨_, rfl⟩, hW, hsame.mono (by decide) (by decide)⟩
    · show Steps p.tables e below (T11.setTop (mkF m 45 #[.val (.ref ar_), .val (.int p1), .val (.ref b4), .val (.long (0 : Int64)), .second, .val (.int (0 : Int32)), .val (.long k0_), .second] [.null])) _
      exact retOut X11 hx Bd.returns rfl (Or.inr (Or.inr (Or.inr (Or.inr ⟨rfl, rfl, rfl⟩)))) (hb hby d3_45) hr
    · show QN1 Z ar_ p1 kk a0_ k0_ h0 n0 _ T11.heap _
      rw [e11q]
      exact Or.inl ⟨rfl, fun q => own_not_ok (Or.inl hc33_14) q.1, N11, K4⟩
  ·
    have a16 : ∀ t, Steps p.tables e below (T11.setTop (mkF m 41 #[.val (.ref ar_), .val (.int p1), .val (.ref b4), .val (.long (0 : Int64)), .second, .val (.int (0 : Int32)), .val (.long k0_), .second] [(.int (lcmpW k0_ (p1.toInt64)))])) t → Steps p.tables e below (s₁.setTop (entryFrame m #[(.ref ar_), (.int p1)] 8)) t := by
      intro t k
      refine a13 t ?_
      show Steps p.tables e below (T11.setTop (mkF m 33 #[.val (.ref ar_), .val (.int p1), .val (.ref b4), .val (.long (0 : Int64)), .second, .val (.int (0 : Int32)), .val (.long k0_), .second] [(.int (lcmpW k0_ (0 : Int64)))])) _
      refine XS.ifNo X11.here hx rfl (hb hby d3_33) rfl ((if0 _ _).trans (flt (fun q => hc33_14 ((lw_lt k0_ (0 : Int64)).mp q))).1) ?_
      refine XS.lload X11.here hx rfl (hb hby d3_36) rfl ?_
      refine XS.iloadN X11.here hx rfl (hb hby d3_38) rfl ?_
      refine XS.i2l X11.here hx rfl (hb hby d3_39) rfl ?_
      refine XS.lcmp X11.here hx rfl (hb hby d3_40) rfl ?_
      exact k
    by_cases hc41_17 : (p1.toInt64) < k0_
    ·
      have a18 : ∀ t, Steps p.tables e below (T11.setTop (mkF m 45 #[.val (.ref ar_), .val (.int p1), .val (.ref b4), .val (.long (0 : Int64)), .second, .val (.int (0 : Int32)), .val (.long k0_), .second] [.null])) t → Steps p.tables e below (s₁.setTop (entryFrame m #[(.ref ar_), (.int p1)] 8)) t := by
        intro t k
        refine a16 t ?_
        show Steps p.tables e below (T11.setTop (mkF m 41 #[.val (.ref ar_), .val (.int p1), .val (.ref b4), .val (.long (0 : Int64)), .second, .val (.int (0 : Int32)), .val (.long k0_), .second] [(.int (lcmpW k0_ (p1.toInt64)))])) _
        refine XS.ifNo X11.here hx rfl (hb hby d3_41) rfl ((if0 _ _).trans (tlt ((lw_gt k0_ (p1.toInt64)).mpr hc41_17)).2.2.2) ?_
        refine XS.aconstNull X11.here hx rfl (hb hby d3_44) ?_
        exact k
      obtain ⟨fs, hr, hrun, hended, hW, hsame⟩ := X11.leave (v := some .null) (fun h => by rw [Bd.returns] at h; cases h)
      refine ⟨_, _, a18 _ ?_, hrun, hended, _, _, rfl, ?_, ⟨_, rfl⟩, hW, hsame.mono (by decide) (by decide)⟩
      · show Steps p.tables e below (T11.setTop (mkF m 45 #[.val (.ref ar_), .val (.int p1), .val (.ref b4), .val (.long (0 : Int64)), .second, .val (.int (0 : Int32)), .val (.long k0_), .second] [.null])) _
        exact retOut X11 hx Bd.returns rfl (Or.inr (Or.inr (Or.inr (Or.inr ⟨rfl, rfl, rfl⟩)))) (hb hby d3_45) hr
      · show QN1 Z ar_ p1 kk a0_ k0_ h0 n0 _ T11.heap _
        rw [e11q]
        exact Or.inl ⟨rfl, fun q => own_not_ok (Or.inr hc41_17) q.1, N11, K4⟩
    ·
      have a19 : ∀ t, Steps p.tables e below (T11.setTop (mkF m 60 #[.val (.ref ar_), .val (.int p1), .val (.ref b4), .val (.long ((0 : Int64) + k0_)), .second, .val (.int (0 : Int32)), .val (.long k0_), .second] [(.double (FP.ddiv (FP.l2d k0_) (FP.i2d p1))), (.int (0 : Int32)), (.ref b4)])) t → Steps p.tables e below (s₁.setTop (entryFrame m #[(.ref ar_), (.int p1)] 8)) t := by
        intro t k
        refine a16 t ?_
        show Steps p.tables e below (T11.setTop (mkF m 41 #[.val (.ref ar_), .val (.int p1), .val (.ref b4), .val (.long (0 : Int64)), .second, .val (.int (0 : Int32)), .val (.long k0_), .second] [(.int (lcmpW k0_ (p1.toInt64)))])) _
        refine XS.ifYes X11.here hx rfl (pc0 := 41) (pc' := 46) rfl (hb hby d3_41) rfl ((if0 _ _).trans (flt (fun q => hc41_17 ((lw_gt k0_ (p1.toInt64)).mp q))).2.2.2) (by decide) (by decide) ?_
        refine XS.lloadN X11.here hx rfl (hb hby d3_46) rfl ?_
        refine XS.lload X11.here hx rfl (hb hby d3_47) rfl ?_
        refine XS.ladd X11.here hx rfl (hb hby d3_49) rfl ?_
        refine XS.lstoreN X11.here hx rfl (hb hby d3_50) rfl (l' := #[.val (.ref ar_), .val (.int p1), .val (.ref b4), .val (.long ((0 : Int64) + k0_)), .second, .val (.int (0 : Int32)), .val (.long k0_), .second]) rfl ?_
        refine XS.aloadN X11.here hx rfl (hb hby d3_51) rfl rfl ?_
        refine XS.iload X11.here hx rfl (hb hby d3_52) rfl ?_
        refine XS.lload X11.here hx rfl (hb hby d3_54) rfl ?_
        refine XS.l2dS X11.here hx rfl (hb hby d3_56) rfl rfl ?_
        refine XS.iloadN X11.here hx rfl (hb hby d3_57) rfl ?_
        refine XS.i2dS X11.here hx rfl (hb hby d3_58) rfl rfl ?_
        refine XS.ddivS X11.here hx rfl (hb hby d3_59) rfl (own_kd hdd) rfl ?_
        exact k
      obtain ⟨cl20, Ar20, qc20, Sz20, Nn20, Hs20, Gs20⟩ := id V_b4
      have hin20 : ¬ ((0 : Int32) < 0 ∨ cl20.slots.size ≤ ((0 : Int32)).toNatClampNeg) := inb_of Sz20 ⟨by decide, by decide⟩
      obtain ⟨T21, h21, X21, e21, W21, st21⟩ := stD X11 hx hZ e11q Ar20 (j := (0 : Int32)) hin20 (g := (mkF m 60 #[.val (.ref ar_), .val (.int p1), .val (.ref b4), .val (.long ((0 : Int64) + k0_)), .second, .val (.int (0 : Int32)), .val (.long k0_), .second] [(.double (FP.ddiv (FP.l2d k0_) (FP.i2d p1))), (.int (0 : Int32)), (.ref b4)])) rfl rfl (hb hby d3_60)
      have V21 : Arv Z h21 b4 kk4 .double (1 : Int32) [(.double (FP.ddiv (FP.l2d k0_) (FP.i2d p1)))] (.double (0 : UInt64)) := Arv.set Ar20 qc20 Sz20 Nn20 Hs20 Gs20 rfl W21 0 rfl (Nat.le_of_ble_eq_true rfl)
      have N21 := Fr.snoc X21 N11 g_b4
      have K21 : Keep h0 h21 [] := Keep.wr K4 W21 (Or.inr sz_b4)
      have a22 : ∀ t, Steps p.tables e below (T21.setTop (mkF m 61 #[.val (.ref ar_), .val (.int p1), .val (.ref b4), .val (.long ((0 : Int64) + k0_)), .second, .val (.int (0 : Int32)), .val (.long k0_), .second] [])) t → Steps p.tables e below (s₁.setTop (entryFrame m #[(.ref ar_), (.int p1)] 8)) t := fun t k => a19 t (st21 t k)
      have a23 : ∀ t, Steps p.tables e below (T21.setTop (mkF m 13 #[.val (.ref ar_), .val (.int p1), .val (.ref b4), .val (.long ((0 : Int64) + k0_)), .second, .val (.int (1 : Int32)), .val (.long k0_), .second] [(.ref ar_), (.int (1 : Int32))])) t → Steps p.tables e below (s₁.setTop (entryFrame m #[(.ref ar_), (.int p1)] 8)) t := by
        intro t k
        refine a22 t ?_
        show Steps p.tables e below (T21.setTop (mkF m 61 #[.val (.ref ar_), .val (.int p1), .val (.ref b4), .val (.long ((0 : Int64) + k0_)), .second, .val (.int (0 : Int32)), .val (.long k0_), .second] [])) _
        refine XS.iinc X21.here hx rfl (hb hby d3_61) rfl (l' := #[.val (.ref ar_), .val (.int p1), .val (.ref b4), .val (.long ((0 : Int64) + k0_)), .second, .val (.int (1 : Int32)), .val (.long k0_), .second]) rfl ?_
        refine XS.goto X21.here hx rfl (pc0 := 64) (pc' := 10) rfl (hb hby d3_64) (by decide) (by decide) ?_
        refine XS.iload X21.here hx rfl (hb hby d3_10) rfl ?_
        refine XS.aloadN X21.here hx rfl (hb hby d3_12) rfl rfl ?_
        exact k
      obtain ⟨cl24, Ar24, qc24, Sz24, Nn24, Hs24, Gs24⟩ := id (Arv.other (A0.ext E4) W21 (Nat.ne_of_lt (Nat.lt_of_lt_of_le A0.lt (Nat.le_of_eq g4.symm))))
      have a25 : ∀ t, Steps p.tables e below (T21.setTop (mkF m 71 #[.val (.ref ar_), .val (.int p1), .val (.ref b4), .val (.long ((0 : Int64) + k0_)), .second, .val (.int (1 : Int32)), .val (.long k0_), .second] [(.int (lcmpW ((0 : Int64) + k0_) (p1.toInt64)))])) t → Steps p.tables e below (s₁.setTop (entryFrame m #[(.ref ar_), (.int p1)] 8)) t := by
        intro t k
        refine a23 t ?_
        show Steps p.tables e below (T21.setTop (mkF m 13 #[.val (.ref ar_), .val (.int p1), .val (.ref b4), .val (.long ((0 : Int64) + k0_)), .second, .val (.int (1 : Int32)), .val (.long k0_), .second] [(.ref ar_), (.int (1 : Int32))])) _
        refine X21.arraylength hx (by rw [e21]; exact Ar24.1) (State.isArrayOf_alike hZ.alike Ar24.2.1) (g := (mkF m 13 #[.val (.ref ar_), .val (.int p1), .val (.ref b4), .val (.long ((0 : Int64) + k0_)), .second, .val (.int (1 : Int32)), .val (.long k0_), .second] [(.ref ar_), (.int (1 : Int32))])) rfl rfl (hb hby d3_13) _ ?_
        rw [len_of Sz24 Nn24]
        refine XS.icmpYes X21.here hx rfl (pc0 := 14) (pc' := 67) rfl (hb hby d3_14) rfl (flt (by decide)).2.1 (by decide) (by decide) ?_
        refine XS.lloadN X21.here hx rfl (hb hby d3_67) rfl ?_
        refine XS.iloadN X21.here hx rfl (hb hby d3_68) rfl ?_
        refine XS.i2l X21.here hx rfl (hb hby d3_69) rfl ?_
        refine XS.lcmp X21.here hx rfl (hb hby d3_70) rfl ?_
        exact k
      by_cases hc71_26 : ((0 : Int64) + k0_) = (p1.toInt64)
      ·
        have a27 : ∀ t, Steps p.tables e below (T21.setTop (mkF m 79 #[.val (.ref ar_), .val (.int p1), .val (.ref b4), .val (.long ((0 : Int64) + k0_)), .second, .val (.int (1 : Int32)), .val (.long k0_), .second] [(.ref b4)])) t → Steps p.tables e below (s₁.setTop (entryFrame m #[(.ref ar_), (.int p1)] 8)) t := by
          intro t k
          refine a25 t ?_
          show Steps p.tables e below (T21.setTop (mkF m 71 #[.val (.ref ar_), .val (.int p1), .val (.ref b4), .val (.long ((0 : Int64) + k0_)), .second, .val (.int (1 : Int32)), .val (.long k0_), .second] [(.int (lcmpW ((0 : Int64) + k0_) (p1.toInt64)))])) _
          refine XS.ifNo X21.here hx rfl (hb hby d3_71) rfl ((if0 _ _).trans (teq ((lw_eq ((0 : Int64) + k0_) (p1.toInt64)).mpr hc71_26)).2) ?_
          refine XS.aloadN X21.here hx rfl (hb hby d3_74) rfl rfl ?_
          refine XS.goto X21.here hx rfl (pc0 := 75) (pc' := 79) rfl (hb hby d3_75) (by decide) (by decide) ?_
          exact k
        obtain ⟨fs, hr, hrun, hended, hW, hsame⟩ := X21.leave (v := some (.ref b4)) (fun h => by rw [Bd.returns] at h; cases h)
        refine ⟨_, _, a27 _ ?_, hrun, hended, _, _, rfl, ?_, ⟨_, rfl⟩, hW, hsame.mono (by decide) (by decide)⟩
        · show Steps p.tables e below (T21.setTop (mkF m 79 #[.val (.ref ar_), .val (.int p1), .val (.ref b4), .val (.long ((0 : Int64) + k0_)), .second, .val (.int (1 : Int32)), .val (.long k0_), .second] [(.ref b4)])) _
          exact retOut X21 hx Bd.returns rfl (Or.inr (Or.inr (Or.inr (Or.inr ⟨rfl, rfl, rfl⟩)))) (hb hby d3_79) hr
        · show QN1 Z ar_ p1 kk a0_ k0_ h0 n0 _ T21.heap _
          rw [e21]
          refine Or.inr ⟨_, _, rfl, ?_, N21, K21, V21⟩
          have o0 := own_is_ok hc33_14 hc41_17
          have hc := hc71_26
          rw [← Int64.toInt_inj, c_i2l] at hc
          have e : (((0 : Int64) + k0_) : Int64).toInt = k0_.toInt := by
            unfold OwnOk OwnD at *; have e0 := own_z64; have s0 := c_ladd (0 : Int64) k0_; have r0 := rng64 ((0 : Int64) + k0_); omega
          rw [e] at hc
          exact ⟨o0, hc⟩
      ·
        have a28 : ∀ t, Steps p.tables e below (T21.setTop (mkF m 79 #[.val (.ref ar_), .val (.int p1), .val (.ref b4), .val (.long ((0 : Int64) + k0_)), .second, .val (.int (1 : Int32)), .val (.long k0_), .second] [.null])) t → Steps p.tables e below (s₁.setTop (entryFrame m #[(.ref ar_), (.int p1)] 8)) t := by
          intro t k
          refine a25 t ?_
          show Steps p.tables e below (T21.setTop (mkF m 71 #[.val (.ref ar_), .val (.int p1), .val (.ref b4), .val (.long ((0 : Int64) + k0_)), .second, .val (.int (1 : Int32)), .val (.long k0_), .second] [(.int (lcmpW ((0 : Int64) + k0_) (p1.toInt64)))])) _
          refine XS.ifYes X21.here hx rfl (pc0 := 71) (pc' := 78) rfl (hb hby d3_71) rfl ((if0 _ _).trans (feq (fun q => hc71_26 ((lw_eq ((0 : Int64) + k0_) (p1.toInt64)).mp q))).2) (by decide) (by decide) ?_
          refine XS.aconstNull X21.here hx rfl (hb hby d3_78) ?_
          exact k
        obtain ⟨fs, hr, hrun, hended, hW, hsame⟩ := X21.leave (v := some .null) (fun h => by rw [Bd.returns] at h; cases h)
        refine ⟨_, _, a28 _ ?_, hrun, hended, _, _, rfl, ?_, ⟨_, rfl⟩, hW, hsame.mono (by decide) (by decide)⟩
        · show Steps p.tables e below (T21.setTop (mkF m 79 #[.val (.ref ar_), .val (.int p1), .val (.ref b4), .val (.long ((0 : Int64) + k0_)), .second, .val (.int (1 : Int32)), .val (.long k0_), .second] [.null])) _
          exact retOut X21 hx Bd.returns rfl (Or.inr (Or.inr (Or.inr (Or.inr ⟨rfl, rfl, rfl⟩)))) (hb hby d3_79) hr
        · show QN1 Z ar_ p1 kk a0_ k0_ h0 n0 _ T21.heap _
          rw [e21]
          refine Or.inl ⟨rfl, ?_, N21, K21⟩
          unfold OwnG1
          have o0 := own_is_ok hc33_14 hc41_17
          have hc := hc71_26
          rw [← Int64.toInt_inj, c_i2l] at hc
          have e : (((0 : Int64) + k0_) : Int64).toInt = k0_.toInt := by
            unfold OwnOk OwnD at *; have e0 := own_z64; have s0 := c_ladd (0 : Int64) k0_; have r0 := rng64 ((0 : Int64) + k0_); omega
          rw [e] at hc
          intro q
          exact hc q.2
theorem ef_rmN2 (m : MethodId) (x0 : Addr) (x1 : Int32) : entryFrame m #[(.ref x0), (.int x1)] 8 = mkF m 0 #[.val (.ref x0), .val (.int x1), .unset, .unset, .unset, .unset, .unset, .unset] [] := by first | (simp [entryFrame, mkF, argsToLocals, Value.category]; done) | rfl
def QN2 (Z : State) (ar_ : Addr) (p1 : Int32) (kk : ClassId) (a0_ k0_ : Int64) (a1_ k1_ : Int64) (h0 : Heap) (n0 : Nat) (v : Option Value) (h : Heap) (L : List Loc) : Prop := (v = some .null ∧ ¬ OwnG2 k0_ k1_ p1 ∧ Fr n0 L ∧ Keep h0 h []) ∨ (∃ (b : Addr) (kb : ClassId), v = some (.ref b) ∧ OwnG2 k0_ k1_ p1 ∧ Fr n0 L ∧ Keep h0 h [] ∧ Arv Z h b kb .double (2 : Int32) [(.double (FP.ddiv (FP.l2d k0_) (FP.i2d p1))), (.double (FP.ddiv (FP.l2d k1_) (FP.i2d p1)))] (.double (0 : UInt64)))
set_option maxRecDepth 65536 in
set_option maxHeartbeats 40000000 in
theorem rmN2 (l : Launch) (Z : State) (a0 : Array Value) (hw : ∀ d ∈ tables_1, d.before a0 Z = true) (ws : List Jvm.Cond) (ar_ : Addr) (p1 : Int32) (kk : ClassId) (a0_ k0_ : Int64) (a1_ k1_ : Int64) (h0 : Heap) (n0 : Nat) (Z0 : n0 ≤ h0.size) (A0 : Arv Z h0 ar_ kk .double (2 : Int32) [(.double (FP.ddiv (FP.l2d a0_) (4652218415073722368 : UInt64))), (.double (FP.ddiv (FP.l2d a1_) (4652218415073722368 : UInt64)))] (.double (0 : UInt64))) (hdd : OwnD p1) (hk0 : OwnK a0_ p1 k0_) (hk1 : OwnK a1_ p1 k1_) :
    MetFree l (⟨"com/example/tillerfront/tillerfront/engine/ReferencePoints", "nearest", "([DI)[D"⟩ : MethodName) (head1 (Jvm.Cond.code (⟨"com/example/tillerfront/tillerfront/engine/ReferencePoints", "nearest", "([DI)[D"⟩ : MethodName) prog_30_method_5_code 8 (some (.array .double)) :: ws) ({ frames := 2, cells := 1, slots := 3, locals := 60 } : Room)) (fun a U => a = #[(.ref ar_), (.int p1)] ∧ Z.Warmed39 U.vm ∧ U.heap = h0) (fun _ _ _ _ _ => True) (fun _ U o U' => ∃ v L, o = .returned v ∧ QN2 Z ar_ p1 kk a0_ k0_ a1_ k1_ h0 n0 v U'.heap L ∧ FrameEnd U o U' L ({ frames := 2, cells := 1, slots := 3, locals := 60 } : Room).cells ({ frames := 2, cells := 1, slots := 3, locals := 60 } : Room).slots) := by
  refine MetFree.of_bodySF (plainFor_of_name own_pn_com_example_tillerfront_tillerfront_engine_ReferencePoints) hisR ?_
  intro p e s m args below meth c s₁ Bd hml0 hP hK
  obtain ⟨rfl, hZ, hh⟩ := hP
  have hx := Bd.exec
  have hby := Bd.bytes
  have hml : c.maxLocals = 8 := hml0
  have hown : s.vm.findClass "com/example/tillerfront/tillerfront/engine/ReferencePoints" = some m.cls := findClass_of_methodNamed Bd.named
  have hnm := (name_of_methodNamed Bd.named Bd.method).1
  have X0 : Stand p l e ({ frames := 2, cells := 1, slots := 3, locals := 60 } : Room) s m #[(.ref ar_), (.int p1)] below meth c s₁ [] 0 0 := Stand.of_body Bd
  have e0 : s₁.heap = h0 := by rw [← hh, Bd.state]; rfl
  have N0 := Fr.nil n0
  have pre0 : ∀ t, Steps p.tables e below (s₁.setTop (mkF m 0 #[.val (.ref ar_), .val (.int p1), .unset, .unset, .unset, .unset, .unset, .unset] [])) t → Steps p.tables e below (s₁.setTop (entryFrame m #[(.ref ar_), (.int p1)] 8)) t := fun t k => castTop (ef_rmN2 m ar_ p1) k
  have a1 : ∀ t, Steps p.tables e below (s₁.setTop (mkF m 1 #[.val (.ref ar_), .val (.int p1), .unset, .unset, .unset, .unset, .unset, .unset] [(.ref ar_)])) t → Steps p.tables e below (s₁.setTop (entryFrame m #[(.ref ar_), (.int p1)] 8)) t := by
    intro t k
    refine pre0 t ?_
    show Steps p.tables e below (s₁.setTop (mkF m 0 #[.val (.ref ar_), .val (.int p1), .unset, .unset, .unset, .unset, .unset, .unset] [])) _
    refine XS.aloadN X0.here hx rfl (hb hby d3_0) rfl rfl ?_
    exact k
  obtain ⟨cl2, Ar2, qc2, Sz2, Nn2, Hs2, Gs2⟩ := id A0
  have a3 : ∀ t, Steps p.tables e below (s₁.setTop (mkF m 2 #[.val (.ref ar_), .val (.int p1), .unset, .unset, .unset, .unset, .unset, .unset] [(.int (2 : Int32))])) t → Steps p.tables e below (s₁.setTop (entryFrame m #[(.ref ar_), (.int p1)] 8)) t := by
    intro t k
    refine a1 t ?_
    show Steps p.tables e below (s₁.setTop (mkF m 1 #[.val (.ref ar_), .val (.int p1), .unset, .unset, .unset, .unset, .unset, .unset] [(.ref ar_)])) _
    refine X0.arraylength hx (by rw [e0]; exact Ar2.1) (State.isArrayOf_alike hZ.alike Ar2.2.1) (g := (mkF m 1 #[.val (.ref ar_), .val (.int p1), .unset, .unset, .unset, .unset, .unset, .unset] [(.ref ar_)])) rfl rfl (hb hby d3_1) _ ?_
    rw [len_of Sz2 Nn2]
    exact k
  obtain ⟨T4, h4, kk4, X4, e4, E4, A4, st4⟩ := newP X0 hx hZ (hw _ (List.mem_of_getElem? (i := 11) rfl)) e0 (g := (mkF m 2 #[.val (.ref ar_), .val (.int p1), .unset, .unset, .unset, .unset, .unset, .unset] [(.int (2 : Int32))])) rfl (hb hby d3_2) rfl (by decide) (cap := 2) (by decide) (by decide) (by decide) (by decide)
  obtain ⟨b4, g4⟩ : ∃ z, z = h0.size := ⟨_, rfl⟩
  rw [← g4] at A4 st4
  have g_b4 : n0 ≤ b4 := Nat.le_trans Z0 (Nat.le_of_eq g4.symm)
  have sz_b4 : h0.size ≤ b4 := Nat.le_trans ((Keep.refl h0 [])).1 (Nat.le_of_eq g4.symm)
  have V_b4 : Arv Z h4 b4 kk4 .double (2 : Int32) [(.double (0 : UInt64)), (.double (0 : UInt64))] (.double (0 : UInt64)) := (Arv.new A4 (by decide)).pad (pad_rep [] (.double (0 : UInt64)) 2)
  have K4 : Keep h0 h4 [] := Keep.ext (Keep.refl h0 []) E4
  have a5 : ∀ t, Steps p.tables e below (T4.setTop (mkF m 4 #[.val (.ref ar_), .val (.int p1), .unset, .unset, .unset, .unset, .unset, .unset] [(.ref b4)])) t → Steps p.tables e below (s₁.setTop (entryFrame m #[(.ref ar_), (.int p1)] 8)) t := fun t k => a3 t (st4 t k)
  have a6 : ∀ t, Steps p.tables e below (T4.setTop (mkF m 13 #[.val (.ref ar_), .val (.int p1), .val (.ref b4), .val (.long (0 : Int64)), .second, .val (.int (0 : Int32)), .unset, .unset] [(.ref ar_), (.int (0 : Int32))])) t → Steps p.tables e below (s₁.setTop (entryFrame m #[(.ref ar_), (.int p1)] 8)) t := by
    intro t k
    refine a5 t ?_
    show Steps p.tables e below (T4.setTop (mkF m 4 #[.val (.ref ar_), .val (.int p1), .unset, .unset, .unset, .unset, .unset, .unset] [(.ref b4)])) _
    refine XS.astoreN X4.here hx rfl (hb hby d3_4) rfl rfl (l' := #[.val (.ref ar_), .val (.int p1), .val (.ref b4), .unset, .unset, .unset, .unset, .unset]) rfl ?_
    refine XS.lconst X4.here hx rfl (hb hby d3_5) ?_
    refine XS.lstoreN X4.here hx rfl (hb hby d3_6) rfl (l' := #[.val (.ref ar_), .val (.int p1), .val (.ref b4), .val (.long (0 : Int64)), .second, .unset, .unset, .unset]) rfl ?_
    refine XS.iconst X4.here hx rfl (hb hby d3_7) ?_
    refine XS.istore X4.here hx rfl (hb hby d3_8) rfl (l' := #[.val (.ref ar_), .val (.int p1), .val (.ref b4), .val (.long (0 : Int64)), .second, .val (.int (0 : Int32)), .unset, .unset]) rfl ?_
    refine XS.iload X4.here hx rfl (hb hby d3_10) rfl ?_
    refine XS.aloadN X4.here hx rfl (hb hby d3_12) rfl rfl ?_
    exact k
  obtain ⟨cl7, Ar7, qc7, Sz7, Nn7, Hs7, Gs7⟩ := id (A0.ext E4)
  have a8 : ∀ t, Steps p.tables e below (T4.setTop (mkF m 20 #[.val (.ref ar_), .val (.int p1), .val (.ref b4), .val (.long (0 : Int64)), .second, .val (.int (0 : Int32)), .unset, .unset] [(.int (0 : Int32)), (.ref ar_)])) t → Steps p.tables e below (s₁.setTop (entryFrame m #[(.ref ar_), (.int p1)] 8)) t := by
    intro t k
    refine a6 t ?_
    show Steps p.tables e below (T4.setTop (mkF m 13 #[.val (.ref ar_), .val (.int p1), .val (.ref b4), .val (.long (0 : Int64)), .second, .val (.int (0 : Int32)), .unset, .unset] [(.ref ar_), (.int (0 : Int32))])) _
    refine X4.arraylength hx (by rw [e4]; exact Ar7.1) (State.isArrayOf_alike hZ.alike Ar7.2.1) (g := (mkF m 13 #[.val (.ref ar_), .val (.int p1), .val (.ref b4), .val (.long (0 : Int64)), .second, .val (.int (0 : Int32)), .unset, .unset] [(.ref ar_), (.int (0 : Int32))])) rfl rfl (hb hby d3_13) _ ?_
    rw [len_of Sz7 Nn7]
    refine XS.icmpNo X4.here hx rfl (hb hby d3_14) rfl (tlt (by decide)).2.1 ?_
    refine XS.aloadN X4.here hx rfl (hb hby d3_17) rfl rfl ?_
    refine XS.iload X4.here hx rfl (hb hby d3_18) rfl ?_
    exact k
  obtain ⟨cl9, Ar9, qc9, Sz9, Nn9, Hs9, Gs9⟩ := id (A0.ext E4)
  have hin9 : ¬ ((0 : Int32) < 0 ∨ cl9.slots.size ≤ ((0 : Int32)).toNatClampNeg) := inb_of Sz9 ⟨by decide, by decide⟩
  have hat9 := Hs9.at hin9 (v := (.double (FP.ddiv (FP.l2d a0_) (4652218415073722368 : UInt64)))) rfl
  have a10 : ∀ t, Steps p.tables e below (T4.setTop (mkF m 24 #[.val (.ref ar_), .val (.int p1), .val (.ref b4), .val (.long (0 : Int64)), .second, .val (.int (0 : Int32)), .unset, .unset] [(.double (FP.dmul (FP.ddiv (FP.l2d a0_) (4652218415073722368 : UInt64)) (FP.i2d p1)))])) t → Steps p.tables e below (s₁.setTop (entryFrame m #[(.ref ar_), (.int p1)] 8)) t := by
    intro t k
    refine a8 t ?_
    show Steps p.tables e below (T4.setTop (mkF m 20 #[.val (.ref ar_), .val (.int p1), .val (.ref b4), .val (.long (0 : Int64)), .second, .val (.int (0 : Int32)), .unset, .unset] [(.int (0 : Int32)), (.ref ar_)])) _
    refine X4.daload hx (j := (0 : Int32)) (v := (.double (FP.ddiv (FP.l2d a0_) (4652218415073722368 : UInt64)))) (by rw [e4]; exact Ar9.1) (State.isArrayOf_alike hZ.alike Ar9.2.1) Ar9.2.2 hin9 hat9 (g := (mkF m 20 #[.val (.ref ar_), .val (.int p1), .val (.ref b4), .val (.long (0 : Int64)), .second, .val (.int (0 : Int32)), .unset, .unset] [(.int (0 : Int32)), (.ref ar_)])) rfl rfl (hb hby d3_20) _ ?_
    refine XS.iloadN X4.here hx rfl (hb hby d3_21) rfl ?_
    refine XS.i2dS X4.here hx rfl (hb hby d3_22) rfl rfl ?_
    refine XS.dmulS X4.here hx rfl (hb hby d3_23) rfl (nn64 (own_xd hk0.1 hdd).1) rfl ?_
    exact k
  obtain ⟨_, _, ⟨T11, L11, k11, n11⟩, -, X11, ⟨Lc11, hQ11, l11, y11, z11⟩, st11⟩ := Jvm.LawKit.callS X4 hx (y := (⟨"java/lang/Math", "round", "(D)J"⟩ : MethodName)) hown (mvT hZ (hw _ (List.mem_of_getElem? (i := 17) rfl))) (mvT hZ (hw _ (List.mem_of_getElem? (i := 18) rfl))) (mvT hZ (hw _ (List.mem_of_getElem? (i := 19) rfl))) (mvT hZ (hw _ (List.mem_of_getElem? (i := 20) rfl))) (by decide) (backOf (W := 0) (rmRound l Z a0 hw [] (FP.dmul (FP.ddiv (FP.l2d a0_) (4652218415073722368 : UInt64)) (FP.i2d p1)) (a0_.toInt * p1.toInt) k0_ h4 n0 (Nat.le_trans Z0 E4.1) (own_xd hk0.1 hdd) (by have := own_prod_bd hk0.1 hdd; omega) hk0.2) hZ (hw _ (List.mem_of_getElem? (i := 20) rfl)) (hw _ (List.mem_of_getElem? (i := 19) rfl)) (by decide) (by decide)) (g := (mkF m 24 #[.val (.ref ar_), .val (.int p1), .val (.ref b4), .val (.long (0 : Int64)), .second, .val (.int (0 : Int32)), .unset, .unset] [(.double (FP.dmul (FP.ddiv (FP.l2d a0_) (4652218415073722368 : UInt64)) (FP.i2d p1)))])) rfl (by rw [hml]; rfl) (argsL := [(.double (FP.dmul (FP.ddiv (FP.l2d a0_) (4652218415073722368 : UInt64)) (FP.i2d p1)))]) (rest := []) (lenOf own_pd0 rfl) rfl (by show 2 * 0 + _ ≤ _; exact Nat.le_of_eq rfl) (hb hby d3_24) (fun _ _ => ⟨rfl, e4, (by decide : 1 + 0 ≤ _), (by decide : 2 + 0 ≤ _)⟩)
  dsimp only [Pt.U, Pt.locs, Pt.cells, Pt.slots] at X11 l11 y11 z11 st11 hQ11
  subst l11 y11 z11
  obtain ⟨rfl, N11q, e11q⟩ := hQ11
  have N11 := Fr.app N0 N11q
  have a12 : ∀ t, Steps p.tables e below (T11.setTop (mkF m 27 #[.val (.ref ar_), .val (.int p1), .val (.ref b4), .val (.long (0 : Int64)), .second, .val (.int (0 : Int32)), .unset, .unset] [(.long k0_)])) t → Steps p.tables e below (s₁.setTop (entryFrame m #[(.ref ar_), (.int p1)] 8)) t := fun t k => a10 t (st11 t k)
  have a13 : ∀ t, Steps p.tables e below (T11.setTop (mkF m 33 #[.val (.ref ar_), .val (.int p1), .val (.ref b4), .val (.long (0 : Int64)), .second, .val (.int (0 : Int32)), .val (.long k0_), .second] [(.int (lcmpW k0_ (0 : Int64)))])) t → Steps p.tables e below (s₁.setTop (entryFrame m #[(.ref ar_), (.int p1)] 8)) t := by
    intro t k
    refine a12 t ?_
    show Steps p.tables e below (T11.setTop (mkF m 27 #[.val (.ref ar_), .val (.int p1), .val (.ref b4), .val (.long (0 : Int64)), .second, .val (.int (0 : Int32)), .unset, .unset] [(.long k0_)])) _
    refine XS.lstore X11.here hx rfl (hb hby d3_27) rfl (l' := #[.val (.ref ar_), .val (.int p1), .val (.ref b4), .val (.long (0 : Int64)), .second, .val (.int (0 : Int32)), .val (.long k0_), .second]) rfl ?_
    refine XS.lload X11.here hx rfl (hb hby d3_29) rfl ?_
    refine XS.lconst X11.here hx rfl (hb hby d3_31) ?_
    refine XS.lcmp X11.here hx rfl (hb hby d3_32) rfl ?_
    exact k
  by_cases hc33_14 : k0_ < (0 : Int64)
  ·
    have a15 : ∀ t, Steps p.tables e below (T11.setTop (mkF m 45 #[.val (.ref ar_), .val (.int p1), .val (.ref b4), .val (.long (0 : Int64)), .second, .val (.int (0 : Int32)), .val (.long k0_), .second] [.null])) t → Steps p.tables e below (s₁.setTop (entryFrame m #[(.ref ar_), (.int p1)] 8)) t := by
      intro t k
      refine a13 t ?_
      show Steps p.tables e below (T11.setTop (mkF m 33 #[.val (.ref ar_), .val (.int p1), .val (.ref b4), .val (.long (0 : Int64)), .second, .val (.int (0 : Int32)), .val (.long k0_), .second] [(.int (lcmpW k0_ (0 : Int64)))])) _
      refine XS.ifYes X11.here hx rfl (pc0 := 33) (pc' := 44) rfl (hb hby d3_33) rfl ((if0 _ _).trans (tlt ((lw_lt k0_ (0 : Int64)).mpr hc33_14)).1) (by decide) (by decide) ?_
      refine XS.aconstNull X11.here hx rfl (hb hby d3_44) ?_
      exact k
    obtain ⟨fs, hr, hrun, hended, hW, hsame⟩ := X11.leave (v := some .null) (fun h => by rw [Bd.returns] at h; cases h)
    refine ⟨_, _, a15 _ ?_, hrun, hended, _, _, rfl, ?_, ⟨_, rfl⟩, hW, hsame.mono (by decide) (by decide)⟩
    · show Steps p.tables e below (T11.setTop (mkF m 45 #[.val (.ref ar_), .val (.int p1), .val (.ref b4), .val (.long (0 : Int64)), .second, .val (.int (0 : Int32)), .val (.long k0_), .second] [.null])) _
      exact retOut X11 hx Bd.returns rfl (Or.inr (Or.inr (Or.inr (Or.inr ⟨rfl, rfl, rfl⟩)))) (hb hby d3_45) hr
    · show QN2 Z ar_ p1 kk a0_ k0_ a1_ k1_ h0 n0 _ T11.heap _
      rw [e11q]
      exact Or.inl ⟨rfl, fun q => own_not_ok (Or.inl hc33_14) q.1, N11, K4⟩
  ·
    have a16 : ∀ t, Steps p.tables e below (T11.setTop (mkF m 41 #[.val (.ref ar_), .val (.int p1), .val (.ref b4), .val (.long (0 : Int64)), .second, .val (.int (0 : Int32)), .val (.long k0_), .second] [(.int (lcmpW k0_ (p1.toInt64)))])) t → Steps p.tables e below (s₁.setTop (entryFrame m #[(.ref ar_), (.int p1)] 8)) t := by
      intro t k
      refine a13 t ?_
      show Steps p.tables e below (T11.setTop (mkF m 33 #[.val (.ref ar_), .val (.int p1), .val (.ref b4), .val (.long (0 : Int64)), .second, .val (.int (0 : Int32)), .val (.long k0_), .second] [(.int (lcmpW k0_ (0 : Int64)))])) _
      refine XS.ifNo X11.here hx rfl (hb hby d3_33) rfl ((if0 _ _).trans (flt (fun q => hc33_14 ((lw_lt k0_ (0 : Int64)).mp q))).1) ?_
      refine XS.lload X11.here hx rfl (hb hby d3_36) rfl ?_
      refine XS.iloadN X11.here hx rfl (hb hby d3_38) rfl ?_
      refine XS.i2l X11.here hx rfl (hb hby d3_39) rfl ?_
      refine XS.lcmp X11.here hx rfl (hb hby d3_40) rfl ?_
      exact k
    by_cases hc41_17 : (p1.toInt64) < k0_
    ·
      have a18 : ∀ t, Steps p.tables e below (T11.setTop (mkF m 45 #[.val (.ref ar_), .val (.int p1), .val (.ref b4), .val (.long (0 : Int64)), .second, .val (.int (0 : Int32)), .val (.long k0_), .second] [.null])) t → Steps p.tables e below (s₁.setTop (entryFrame m #[(.ref ar_), (.int p1)] 8)) t := by
        intro t k
        refine a16 t ?_
        show Steps p.tables e below (T11.setTop (mkF m 41 #[.val (.ref ar_), .val (.int p1), .val (.ref b4), .val (.long (0 : Int64)), .second, .val (.int (0 : Int32)), .val (.long k0_), .second] [(.int (lcmpW k0_ (p1.toInt64)))])) _
        refine XS.ifNo X11.here hx rfl (hb hby d3_41) rfl ((if0 _ _).trans (tlt ((lw_gt k0_ (p1.toInt64)).mpr hc41_17)).2.2.2) ?_
        refine XS.aconstNull X11.here hx rfl (hb hby d3_44) ?_
        exact k
      obtain ⟨fs, hr, hrun, hended, hW, hsame⟩ := X11.leave (v := some .null) (fun h => by rw [Bd.returns] at h; cases h)
      refine ⟨_, _, a18 _ ?_, hrun, hended, _, _, rfl, ?_, ⟨_, rfl⟩, hW, hsame.mono (by decide) (by decide)⟩
      · show Steps p.tables e below (T11.setTop (mkF m 45 #[.val (.ref ar_), .val (.int p1), .val (.ref b4), .val (.long (0 : Int64)), .second, .val (.int (0 : Int32)), .val (.long k0_), .second] [.null])) _
        exact retOut X11 hx Bd.returns rfl (Or.inr (Or.inr (Or.inr (Or.inr ⟨rfl, rfl, rfl⟩)))) (hb hby d3_45) hr
      · show QN2 Z ar_ p1 kk a0_ k0_ a1_ k1_ h0 n0 _ T11.heap _
        rw [e11q]
        exact Or.inl ⟨rfl, fun q => own_not_ok (Or.inr hc41_17) q.1, N11, K4⟩
    ·
      have a19 : ∀ t, Steps p.tables e below (T11.setTop (mkF m 60 #[.val (.ref ar_), .val (.int p1), .val (.ref b4), .val (.long ((0 : Int64) + k0_)), .second, .val (.int (0 : Int32)), .val (.long k0_), .second] [(.double (FP.ddiv (FP.l2d k0_) (FP.i2d p1))), (.int (0 : Int32)), (.ref b4)])) t → Steps p.tables e below (s₁.setTop (entryFrame m #[(.ref ar_), (.int p1)] 8)) t := by
        intro t k
        refine a16 t ?_
        show Steps p.tables e below (T11.setTop (mkF m 41 #[.val (.ref ar_), .val (.int p1), .val (.ref b4), .val (.long (0 : Int64)), .second, .val (.int (0 : Int32)), .val (.long k0_), .second] [(.int (lcmpW k0_ (p1.toInt64)))])) _
        refine XS.ifYes X11.here hx rfl (pc0 := 41) (pc' := 46) rfl (hb hby d3_41) rfl ((if0 _ _).trans (flt (fun q => hc41_17 ((lw_gt k0_ (p1.toInt64)).mp q))).2.2.2) (by decide) (by decide) ?_
        refine XS.lloadN X11.here hx rfl (hb hby d3_46) rfl ?_
        refine XS.lload X11.here hx rfl (hb hby d3_47) rfl ?_
        refine XS.ladd X11.here hx rfl (hb hby d3_49) rfl ?_
        refine XS.lstoreN X11.here hx rfl (hb hby d3_50) rfl (l' := #[.val (.ref ar_), .val (.int p1), .val (.ref b4), .val (.long ((0 : Int64) + k0_)), .second, .val (.int (0 : Int32)), .val (.long k0_), .second]) rfl ?_
        refine XS.aloadN X11.here hx rfl (hb hby d3_51) rfl rfl ?_
        refine XS.iload X11.here hx rfl (hb hby d3_52) rfl ?_
        refine XS.lload X11.here hx rfl (hb hby d3_54) rfl ?_
        refine XS.l2dS X11.here hx rfl (hb hby d3_56) rfl rfl ?_
        refine XS.iloadN X11.here hx rfl (hb hby d3_57) rfl ?_
        refine XS.i2dS X11.here hx rfl (hb hby d3_58) rfl rfl ?_
        refine XS.ddivS X11.here hx rfl (hb hby d3_59) rfl (own_kd hdd) rfl ?_
        exact k
      obtain ⟨cl20, Ar20, qc20, Sz20, Nn20, Hs20, Gs20⟩ := id V_b4
      have hin20 : ¬ ((0 : Int32) < 0 ∨ cl20.slots.size ≤ ((0 : Int32)).toNatClampNeg) := inb_of Sz20 ⟨by decide, by decide⟩
      obtain ⟨T21, h21, X21, e21, W21, st21⟩ := stD X11 hx hZ e11q Ar20 (j := (0 : Int32)) hin20 (g := (mkF m 60 #[.val (.ref ar_), .val (.int p1), .val (.ref b4), .val (.long ((0 : Int64) + k0_)), .second, .val (.int (0 : Int32)), .val (.long k0_), .second] [(.double (FP.ddiv (FP.l2d k0_) (FP.i2d p1))), (.int (0 : Int32)), (.ref b4)])) rfl rfl (hb hby d3_60)
      have V21 : Arv Z h21 b4 kk4 .double (2 : Int32) [(.double (FP.ddiv (FP.l2d k0_) (FP.i2d p1))), (.double (0 : UInt64))] (.double (0 : UInt64)) := Arv.set Ar20 qc20 Sz20 Nn20 Hs20 Gs20 rfl W21 0 rfl (Nat.le_of_ble_eq_true rfl)
      have N21 := Fr.snoc X21 N11 g_b4
      have K21 : Keep h0 h21 [] := Keep.wr K4 W21 (Or.inr sz_b4)
      have a22 : ∀ t, Steps p.tables e below (T21.setTop (mkF m 61 #[.val (.ref ar_), .val (.int p1), .val (.ref b4), .val (.long ((0 : Int64) + k0_)), .second, .val (.int (0 : Int32)), .val (.long k0_), .second] [])) t → Steps p.tables e below (s₁.setTop (entryFrame m #[(.ref ar_), (.int p1)] 8)) t := fun t k => a19 t (st21 t k)
      have a23 : ∀ t, Steps p.tables e below (T21.setTop (mkF m 13 #[.val (.ref ar_), .val (.int p1), .val (.ref b4), .val (.long ((0 : Int64) + k0_)), .second, .val (.int (1 : Int32)), .val (.long k0_), .second] [(.ref ar_), (.int (1 : Int32))])) t → Steps p.tables e below (s₁.setTop (entryFrame m #[(.ref ar_), (.int p1)] 8)) t := by
        intro t k
        refine a22 t ?_
        show Steps p.tables e below (T21.setTop (mkF m 61 #[.val (.ref ar_), .val (.int p1), .val (.ref b4), .val (.long ((0 : Int64) + k0_)), .second, .val (.int (0 : Int32)), .val (.long k0_), .second] [])) _
        refine XS.iinc X21.here hx rfl (hb hby d3_61) rfl (l' := #[.val (.ref ar_), .val (.int p1), .val (.ref b4), .val (.long ((0 : Int64) + k0_)), .second, .val (.int (1 : Int32)), .val (.long k0_), .second]) rfl ?_
        refine XS.goto X21.here hx rfl (pc0 := 64) (pc' := 10) rfl (hb hby d3_64) (by decide) (by decide) ?_
        refine XS.iload X21.here hx rfl (hb hby d3_10) rfl ?_
        refine XS.aloadN X21.here hx rfl (hb hby d3_12) rfl rfl ?_
        exact k
      obtain ⟨cl24, Ar24, qc24, Sz24, Nn24, Hs24, Gs24⟩ := id (Arv.other (A0.ext E4) W21 (Nat.ne_of_lt (Nat.lt_of_lt_of_le A0.lt (Nat.le_of_eq g4.symm))))
      have a25 : ∀ t, Steps p.tables e below (T21.setTop (mkF m 20 #[.val (.ref ar_), .val (.int p1), .val (.ref b4), .val (.long ((0 : Int64) + k0_)), .second, .val (.int (1 : Int32)), .val (.long k0_), .second] [(.int (1 : Int32)), (.ref ar_)])) t → Steps p.tables e below (s₁.setTop (entryFrame m #[(.ref ar_), (.int p1)] 8)) t := by
        intro t k
        refine a23 t ?_
        show Steps p.tables e below (T21.setTop (mkF m 13 #[.val (.ref ar_), .val (.int p1), .val (.ref b4), .val (.long ((0 : Int64) + k0_)), .second, .val (.int (1 : Int32)), .val (.long k0_), .second] [(.ref ar_), (.int (1 : Int32))])) _
        refine X21.arraylength hx (by rw [e21]; exact Ar24.1) (State.isArrayOf_alike hZ.alike Ar24.2.1) (g := (mkF m 13 #[.val (.ref ar_), .val (.int p1), .val (.ref b4), .val (.long ((0 : Int64) + k0_)), .second, .val (.int (1 : Int32)), .val (.long k0_), .second] [(.ref ar_), (.int (1 : Int32))])) rfl rfl (hb hby d3_13) _ ?_
        rw [len_of Sz24 Nn24]
        refine XS.icmpNo X21.here hx rfl (hb hby d3_14) rfl (tlt (by decide)).2.1 ?_
        refine XS.aloadN X21.here hx rfl (hb hby d3_17) rfl rfl ?_
        refine XS.iload X21.here hx rfl (hb hby d3_18) rfl ?_
        exact k
      obtain ⟨cl26, Ar26, qc26, Sz26, Nn26, Hs26, Gs26⟩ := id (Arv.other (A0.ext E4) W21 (Nat.ne_of_lt (Nat.lt_of_lt_of_le A0.lt (Nat.le_of_eq g4.symm))))
      have hin26 : ¬ ((1 : Int32) < 0 ∨ cl26.slots.size ≤ ((1 : Int32)).toNatClampNeg) := inb_of Sz26 ⟨by decide, by decide⟩
      have hat26 := Hs26.at hin26 (v := (.double (FP.ddiv (FP.l2d a1_) (4652218415073722368 : UInt64)))) rfl
      have a27 : ∀ t, Steps p.tables e below (T21.setTop (mkF m 24 #[.val (.ref ar_), .val (.int p1), .val (.ref b4), .val (.long ((0 : Int64) + k0_)), .second, .val (.int (1 : Int32)), .val (.long k0_), .second] [(.double (FP.dmul (FP.ddiv (FP.l2d a1_) (4652218415073722368 : UInt64)) (FP.i2d p1)))])) t → Steps p.tables e below (s₁.setTop (entryFrame m #[(.ref ar_), (.int p1)] 8)) t := by
        intro t k
        refine a25 t ?_
        show Steps p.tables e below (T21.setTop (mkF m 20 #[.val (.ref ar_), .val (.int p1), .val (.ref b4), .val (.long ((0 : Int64) + k0_)), .second, .val (.int (1 : Int32)), .val (.long k0_), .second] [(.int (1 : Int32)), (.ref ar_)])) _
        refine X21.daload hx (j := (1 : Int32)) (v := (.double (FP.ddiv (FP.l2d a1_) (4652218415073722368 : UInt64)))) (by rw [e21]; exact Ar26.1) (State.isArrayOf_alike hZ.alike Ar26.2.1) Ar26.2.2 hin26 hat26 (g := (mkF m 20 #[.val (.ref ar_), .val (.int p1), .val (.ref b4), .val (.long ((0 : Int64) + k0_)), .second, .val (.int (1 : Int32)), .val (.long k0_), .second] [(.int (1 : Int32)), (.ref ar_)])) rfl rfl (hb hby d3_20) _ ?_
        refine XS.iloadN X21.here hx rfl (hb hby d3_21) rfl ?_
        refine XS.i2dS X21.here hx rfl (hb hby d3_22) rfl rfl ?_
        refine XS.dmulS X21.here hx rfl (hb hby d3_23) rfl (nn64 (own_xd hk1.1 hdd).1) rfl ?_
        exact k
      obtain ⟨_, _, ⟨T28, L28, k28, n28⟩, -, X28, ⟨Lc28, hQ28, l28, y28, z28⟩, st28⟩ := Jvm.LawKit.callS X21 hx (y := (⟨"java/lang/Math", "round", "(D)J"⟩ : MethodName)) hown (mvT hZ (hw _ (List.mem_of_getElem? (i := 17) rfl))) (mvT hZ (hw _ (List.mem_of_getElem? (i := 18) rfl))) (mvT hZ (hw _ (List.mem_of_getElem? (i := 19) rfl))) (mvT hZ (hw _ (List.mem_of_getElem? (i := 20) rfl))) (by decide) (backOf (W := 0) (rmRound l Z a0 hw [] (FP.dmul (FP.ddiv (FP.l2d a1_) (4652218415073722368 : UInt64)) (FP.i2d p1)) (a1_.toInt * p1.toInt) k1_ h21 n0 (Nat.le_trans (Nat.le_trans Z0 E4.1) (Keep.of_wr W21).1) (own_xd hk1.1 hdd) (by have := own_prod_bd hk1.1 hdd; omega) hk1.2) hZ (hw _ (List.mem_of_getElem? (i := 20) rfl)) (hw _ (List.mem_of_getElem? (i := 19) rfl)) (by decide) (by decide)) (g := (mkF m 24 #[.val (.ref ar_), .val (.int p1), .val (.ref b4), .val (.long ((0 : Int64) + k0_)), .second, .val (.int (1 : Int32)), .val (.long k0_), .second] [(.double (FP.dmul (FP.ddiv (FP.l2d a1_) (4652218415073722368 : UInt64)) (FP.i2d p1)))])) rfl (by rw [hml]; rfl) (argsL := [(.double (FP.dmul (FP.ddiv (FP.l2d a1_) (4652218415073722368 : UInt64)) (FP.i2d p1)))]) (rest := []) (lenOf own_pd0 rfl) rfl (by show 2 * 0 + _ ≤ _; exact Nat.le_of_eq rfl) (hb hby d3_24) (fun _ _ => ⟨rfl, e21, (by decide : 1 + 0 ≤ _), (by decide : 2 + 0 ≤ _)⟩)
      dsimp only [Pt.U, Pt.locs, Pt.cells, Pt.slots] at X28 l28 y28 z28 st28 hQ28
      subst l28 y28 z28
      obtain ⟨rfl, N28q, e28q⟩ := hQ28
      have N28 := Fr.app N21 N28q
      have a29 : ∀ t, Steps p.tables e below (T28.setTop (mkF m 27 #[.val (.ref ar_), .val (.int p1), .val (.ref b4), .val (.long ((0 : Int64) + k0_)), .second, .val (.int (1 : Int32)), .val (.long k0_), .second] [(.long k1_)])) t → Steps p.tables e below (s₁.setTop (entryFrame m #[(.ref ar_), (.int p1)] 8)) t := fun t k => a27 t (st28 t k)
      have a30 : ∀ t, Steps p.tables e below (T28.setTop (mkF m 33 #[.val (.ref ar_), .val (.int p1), .val (.ref b4), .val (.long ((0 : Int64) + k0_)), .second, .val (.int (1 : Int32)), .val (.long k1_), .second] [(.int (lcmpW k1_ (0 : Int64)))])) t → Steps p.tables e below (s₁.setTop (entryFrame m #[(.ref ar_), (.int p1)] 8)) t := by
        intro t k
        refine a29 t ?_
        show Steps p.tables e below (T28.setTop (mkF m 27 #[.val (.ref ar_), .val (.int p1), .val (.ref b4), .val (.long ((0 : Int64) + k0_)), .second, .val (.int (1 : Int32)), .val (.long k0_), .second] [(.long k1_)])) _
        refine XS.lstore X28.here hx rfl (hb hby d3_27) rfl (l' := #[.val (.ref ar_), .val (.int p1), .val (.ref b4), .val (.long ((0 : Int64) + k0_)), .second, .val (.int (1 : Int32)), .val (.long k1_), .second]) rfl ?_
        refine XS.lload X28.here hx rfl (hb hby d3_29) rfl ?_
        refine XS.lconst X28.here hx rfl (hb hby d3_31) ?_
        refine XS.lcmp X28.here hx rfl (hb hby d3_32) rfl ?_
        exact k
      by_cases hc33_31 : k1_ < (0 : Int64)
      ·
        have a32 : ∀ t, Steps p.tables e below (T28.setTop (mkF m 45 #[.val (.ref ar_), .val (.int p1), .val (.ref b4), .val (.long ((0 : Int64) + k0_)), .second, .val (.int (1 : Int32)), .val (.long k1_), .second] [.null])) t → Steps p.tables e below (s₁.setTop (entryFrame m #[(.ref ar_), (.int p1)] 8)) t := by
          intro t k
          refine a30 t ?_
          show Steps p.tables e below (T28.setTop (mkF m 33 #[.val (.ref ar_), .val (.int p1), .val (.ref b4), .val (.long ((0 : Int64) + k0_)), .second, .val (.int (1 : Int32)), .val (.long k1_), .second] [(.int (lcmpW k1_ (0 : Int64)))])) _
          refine XS.ifYes X28.here hx rfl (pc0 := 33) (pc' := 44) rfl (hb hby d3_33) rfl ((if0 _ _).trans (tlt ((lw_lt k1_ (0 : Int64)).mpr hc33_31)).1) (by decide) (by decide) ?_
          refine XS.aconstNull X28.here hx rfl (hb hby d3_44) ?_
          exact k
        obtain ⟨fs, hr, hrun, hended, hW, hsame⟩ := X28.leave (v := some .null) (fun h => by rw [Bd.returns] at h; cases h)
        refine ⟨_, _, a32 _ ?_, hrun, hended, _, _, rfl, ?_, ⟨_, rfl⟩, hW, hsame.mono (by decide) (by decide)⟩
        · show Steps p.tables e below (T28.setTop (mkF m 45 #[.val (.ref ar_), .val (.int p1), .val (.ref b4), .val (.long ((0 : Int64) + k0_)), .second, .val (.int (1 : Int32)), .val (.long k1_), .second] [.null])) _
          exact retOut X28 hx Bd.returns rfl (Or.inr (Or.inr (Or.inr (Or.inr ⟨rfl, rfl, rfl⟩)))) (hb hby d3_45) hr
        · show QN2 Z ar_ p1 kk a0_ k0_ a1_ k1_ h0 n0 _ T28.heap _
          rw [e28q]
          exact Or.inl ⟨rfl, fun q => own_not_ok (Or.inl hc33_31) q.2.1, N28, K21⟩
      ·
        have a33 : ∀ t, Steps p.tables e below (T28.setTop (mkF m 41 #[.val (.ref ar_), .val (.int p1), .val (.ref b4), .val (.long ((0 : Int64) + k0_)), .second, .val (.int (1 : Int32)), .val (.long k1_), .second] [(.int (lcmpW k1_ (p1.toInt64)))])) t → Steps p.tables e below (s₁.setTop (entryFrame m #[(.ref ar_), (.int p1)] 8)) t := by
          intro t k
          refine a30 t ?_
          show Steps p.tables e below (T28.setTop (mkF m 33 #[.val (.ref ar_), .val (.int p1), .val (.ref b4), .val (.long ((0 : Int64) + k0_)), .second, .val (.int (1 : Int32)), .val (.long k1_), .second] [(.int (lcmpW k1_ (0 : Int64)))])) _
          refine XS.ifNo X28.here hx rfl (hb hby d3_33) rfl ((if0 _ _).trans (flt (fun q => hc33_31 ((lw_lt k1_ (0 : Int64)).mp q))).1) ?_
          refine XS.lload X28.here hx rfl (hb hby d3_36) rfl ?_
          refine XS.iloadN X28.here hx rfl (hb hby d3_38) rfl ?_
          refine XS.i2l X28.here hx rfl (hb hby d3_39) rfl ?_
          refine XS.lcmp X28.here hx rfl (hb hby d3_40) rfl ?_
          exact k
        by_cases hc41_34 : (p1.toInt64) < k1_
        ·
          have a35 : ∀ t, Steps p.tables e below (T28.setTop (mkF m 45 #[.val (.ref ar_), .val (.int p1), .val (.ref b4), .val (.long ((0 : Int64) + k0_)), .second, .val (.int (1 : Int32)), .val (.long k1_), .second] [.null])) t → Steps p.tables e below (s₁.setTop (entryFrame m #[(.ref ar_), (.int p1)] 8)) t := by
            intro t k
            refine a33 t ?_
            show Steps p.tables e below (T28.setTop (mkF m 41 #[.val (.ref ar_), .val (.int p1), .val (.ref b4), .val (.long ((0 : Int64) + k0_)), .second, .val (.int (1 : Int32)), .val (.long k1_), .second] [(.int (lcmpW k1_ (p1.toInt64)))])) _
            refine XS.ifNo X28.here hx rfl (hb hby d3_41) rfl ((if0 _ _).trans (tlt ((lw_gt k1_ (p1.toInt64)).mpr hc41_34)).2.2.2) ?_
            refine XS.aconstNull X28.here hx rfl (hb hby d3_44) ?_
            exact k
          obtain ⟨fs, hr, hrun, hended, hW, hsame⟩ := X28.leave (v := some .null) (fun h => by rw [Bd.returns] at h; cases h)
          refine ⟨_, _, a35 _ ?_, hrun, hended, _, _, rfl, ?_, ⟨_, rfl⟩, hW, hsame.mono (by decide) (by decide)⟩
          · show Steps p.tables e below (T28.setTop (mkF m 45 #[.val (.ref ar_), .val (.int p1), .val (.ref b4), .val (.long ((0 : Int64) + k0_)), .second, .val (.int (1 : Int32)), .val (.long k1_), .second] [.null])) _
            exact retOut X28 hx Bd.returns rfl (Or.inr (Or.inr (Or.inr (Or.inr ⟨rfl, rfl, rfl⟩)))) (hb hby d3_45) hr
          · show QN2 Z ar_ p1 kk a0_ k0_ a1_ k1_ h0 n0 _ T28.heap _
            rw [e28q]
            exact Or.inl ⟨rfl, fun q => own_not_ok (Or.inr hc41_34) q.2.1, N28, K21⟩
        ·
          have a36 : ∀ t, Steps p.tables e below (T28.setTop (mkF m 60 #[.val (.ref ar_), .val (.int p1), .val (.ref b4), .val (.long (((0 : Int64) + k0_) + k1_)), .second, .val (.int (1 : Int32)), .val (.long k1_), .second] [(.double (FP.ddiv (FP.l2d k1_) (FP.i2d p1))), (.int (1 : Int32)), (.ref b4)])) t → Steps p.tables e below (s₁.setTop (entryFrame m #[(.ref ar_), (.int p1)] 8)) t := by
            intro t k
            refine a33 t ?_
            show Steps p.tables e below (T28.setTop (mkF m 41 #[.val (.ref ar_), .val (.int p1), .val (.ref b4), .val (.long ((0 : Int64) + k0_)), .second, .val (.int (1 : Int32)), .val (.long k1_), .second] [(.int (lcmpW k1_ (p1.toInt64)))])) _
            refine XS.ifYes X28.here hx rfl (pc0 := 41) (pc' := 46) rfl (hb hby d3_41) rfl ((if0 _ _).trans (flt (fun q => hc41_34 ((lw_gt k1_ (p1.toInt64)).mp q))).2.2.2) (by decide) (by decide) ?_
            refine XS.lloadN X28.here hx rfl (hb hby d3_46) rfl ?_
            refine XS.lload X28.here hx rfl (hb hby d3_47) rfl ?_
            refine XS.ladd X28.here hx rfl (hb hby d3_49) rfl ?_
            refine XS.lstoreN X28.here hx rfl (hb hby d3_50) rfl (l' := #[.val (.ref ar_), .val (.int p1), .val (.ref b4), .val (.long (((0 : Int64) + k0_) + k1_)), .second, .val (.int (1 : Int32)), .val (.long k1_), .second]) rfl ?_
            refine XS.aloadN X28.here hx rfl (hb hby d3_51) rfl rfl ?_
            refine XS.iload X28.here hx rfl (hb hby d3_52) rfl ?_
            refine XS.lload X28.here hx rfl (hb hby d3_54) rfl ?_
            refine XS.l2dS X28.here hx rfl (hb hby d3_56) rfl rfl ?_
            refine XS.iloadN X28.here hx rfl (hb hby d3_57) rfl ?_
            refine XS.i2dS X28.here hx rfl (hb hby d3_58) rfl rfl ?_
            refine XS.ddivS X28.here hx rfl (hb hby d3_59) rfl (own_kd hdd) rfl ?_
            exact k
          obtain ⟨cl37, Ar37, qc37, Sz37, Nn37, Hs37, Gs37⟩ := id V21
          have hin37 : ¬ ((1 : Int32) < 0 ∨ cl37.slots.size ≤ ((1 : Int32)).toNatClampNeg) := inb_of Sz37 ⟨by decide, by decide⟩
          obtain ⟨T38, h38, X38, e38, W38, st38⟩ := stD X28 hx hZ e28q Ar37 (j := (1 : Int32)) hin37 (g := (mkF m 60 #[.val (.ref ar_), .val (.int p1), .val (.ref b4), .val (.long (((0 : Int64) + k0_) + k1_)), .second, .val (.int (1 : Int32)), .val (.long k1_), .second] [(.double (FP.ddiv (FP.l2d k1_) (FP.i2d p1))), (.int (1 : Int32)), (.ref b4)])) rfl rfl (hb hby d3_60)
          have V38 : Arv Z h38 b4 kk4 .double (2 : Int32) [(.double (FP.ddiv (FP.l2d k0_) (FP.i2d p1))), (.double (FP.ddiv (FP.l2d k1_) (FP.i2d p1)))] (.double (0 : UInt64)) := Arv.set Ar37 qc37 Sz37 Nn37 Hs37 Gs37 rfl W38 1 rfl (Nat.le_of_ble_eq_true rfl)
          have N38 := Fr.snoc X38 N28 g_b4
          have K38 : Keep h0 h38 [] := Keep.wr K21 W38 (Or.inr sz_b4)
          have a39 : ∀ t, Steps p.tables e below (T38.setTop (mkF m 61 #[.val (.ref ar_), .val (.int p1), .val (.ref b4), .val (.long (((0 : Int64) + k0_) + k1_)), .second, .val (.int (1 : Int32)), .val (.long k1_), .second] [])) t → Steps p.tables e below (s₁.setTop (entryFrame m #[(.ref ar_), (.int p1)] 8)) t := fun t k => a36 t (st38 t k)
          have a40 : ∀ t, Steps p.tables e below (T38.setTop (mkF m 13 #[.val (.ref ar_), .val (.int p1), .val (.ref b4), .val (.long (((0 : Int64) + k0_) + k1_)), .second, .val (.int (2 : Int32)), .val (.long k1_), .second] [(.ref ar_), (.int (2 : Int32))])) t → Steps p.tables e below (s₁.setTop (entryFrame m #[(.ref ar_), (.int p1)] 8)) t := by
            intro t k
            refine a39 t ?_
            show Steps p.tables e below (T38.setTop (mkF m 61 #[.val (.ref ar_), .val (.int p1), .val (.ref b4), .val (.long (((0 : Int64) + k0_) + k1_)), .second, .val (.int (1 : Int32)), .val (.long k1_), .second] [])) _
            refine XS.iinc X38.here hx rfl (hb hby d3_61) rfl (l' := #[.val (.ref ar_), .val (.int p1), .val (.ref b4), .val (.long (((0 : Int64) + k0_) + k1_)), .second, .val (.int (2 : Int32)), .val (.long k1_), .second]) rfl ?_
            refine XS.goto X38.here hx rfl (pc0 := 64) (pc' := 10) rfl (hb hby d3_64) (by decide) (by decide) ?_
            refine XS.iload X38.here hx rfl (hb hby d3_10) rfl ?_
            refine XS.aloadN X38.here hx rfl (hb hby d3_12) rfl rfl ?_
            exact k
          obtain ⟨cl41, Ar41, qc41, Sz41, Nn41, Hs41, Gs41⟩ := id (Arv.other (Arv.other (A0.ext E4) W21 (Nat.ne_of_lt (Nat.lt_of_lt_of_le A0.lt (Nat.le_of_eq g4.symm)))) W38 (Nat.ne_of_lt (Nat.lt_of_lt_of_le A0.lt (Nat.le_of_eq g4.symm))))
          have a42 : ∀ t, Steps p.tables e below (T38.setTop (mkF m 71 #[.val (.ref ar_), .val (.int p1), .val (.ref b4), .val (.long (((0 : Int64) + k0_) + k1_)), .second, .val (.int (2 : Int32)), .val (.long k1_), .second] [(.int (lcmpW (((0 : Int64) + k0_) + k1_) (p1.toInt64)))])) t → Steps p.tables e below (s₁.setTop (entryFrame m #[(.ref ar_), (.int p1)] 8)) t := by
            intro t k
            refine a40 t ?_
            show Steps p.tables e below (T38.setTop (mkF m 13 #[.val (.ref ar_), .val (.int p1), .val (.ref b4), .val (.long (((0 : Int64) + k0_) + k1_)), .second, .val (.int (2 : Int32)), .val (.long k1_), .second] [(.ref ar_), (.int (2 : Int32))])) _
            refine X38.arraylength hx (by rw [e38]; exact Ar41.1) (State.isArrayOf_alike hZ.alike Ar41.2.1) (g := (mkF m 13 #[.val (.ref ar_), .val (.int p1), .val (.ref b4), .val (.long (((0 : Int64) + k0_) + k1_)), .second, .val (.int (2 : Int32)), .val (.long k1_), .second] [(.ref ar_), (.int (2 : Int32))])) rfl rfl (hb hby d3_13) _ ?_
            rw [len_of Sz41 Nn41]
            refine XS.icmpYes X38.here hx rfl (pc0 := 14) (pc' := 67) rfl (hb hby d3_14) rfl (flt (by decide)).2.1 (by decide) (by decide) ?_
            refine XS.lloadN X38.here hx rfl (hb hby d3_67) rfl ?_
            refine XS.iloadN X38.here hx rfl (hb hby d3_68) rfl ?_
            refine XS.i2l X38.here hx rfl (hb hby d3_69) rfl ?_
            refine XS.lcmp X38.here hx rfl (hb hby d3_70) rfl ?_
            exact k
          by_cases hc71_43 : (((0 : Int64) + k0_) + k1_) = (p1.toInt64)
          ·
            have a44 : ∀ t, Steps p.tables e below (T38.setTop (mkF m 79 #[.val (.ref ar_), .val (.int p1), .val (.ref b4), .val (.long (((0 : Int64) + k0_) + k1_)), .second, .val (.int (2 : Int32)), .val (.long k1_), .second] [(.ref b4)])) t → Steps p.tables e below (s₁.setTop (entryFrame m #[(.ref ar_), (.int p1)] 8)) t := by
              intro t k
              refine a42 t ?_
              show Steps p.tables e below (T38.setTop (mkF m 71 #[.val (.ref ar_), .val (.int p1), .val (.ref b4), .val (.long (((0 : Int64) + k0_) + k1_)), .second, .val (.int (2 : Int32)), .val (.long k1_), .second] [(.int (lcmpW (((0 : Int64) + k0_) + k1_) (p1.toInt64)))])) _
              refine XS.ifNo X38.here hx rfl (hb hby d3_71) rfl ((if0 _ _).trans (teq ((lw_eq (((0 : Int64) + k0_) + k1_) (p1.toInt64)).mpr hc71_43)).2) ?_
              refine XS.aloadN X38.here hx rfl (hb hby d3_74) rfl rfl ?_
              refine XS.goto X38.here hx rfl (pc0 := 75) (pc' := 79) rfl (hb hby d3_75) (by decide) (by decide) ?_
              exact k
            obtain ⟨fs, hr, hrun, hended, hW, hsame⟩ := X38.leave (v := some (.ref b4)) (fun h => by rw [Bd.returns] at h; cases h)
            refine ⟨_, _, a44 _ ?_, hrun, hended, _, _, rfl, ?_, ⟨_, rfl⟩, hW, hsame.mono (by decide) (by decide)⟩
            · show Steps p.tables e below (T38.setTop (mkF m 79 #[.val (.ref ar_), .val (.int p1), .val (.ref b4), .val (.long (((0 : Int64) + k0_) + k1_)), .second, .val (.int (2 : Int32)), .val (.long k1_), .second] [(.ref b4)])) _
              exact retOut X38 hx Bd.returns rfl (Or.inr (Or.inr (Or.inr (Or.inr ⟨rfl, rfl, rfl⟩)))) (hb hby d3_79) hr
            · show QN2 Z ar_ p1 kk a0_ k0_ a1_ k1_ h0 n0 _ T38.heap _
              rw [e38]
              refine Or.inr ⟨_, _, rfl, ?_, N38, K38, V38⟩
              have o0 := own_is_ok hc33_14 hc41_17
              have o1 := own_is_ok hc33_31 hc41_34
              have hc := hc71_43
              rw [← Int64.toInt_inj, c_i2l] at hc
              have e : ((((0 : Int64) + k0_) + k1_) : Int64).toInt = k0_.toInt + k1_.toInt := by
                unfold OwnOk OwnD at *; have e0 := own_z64; have s0 := c_ladd (0 : Int64) k0_; have r0 := rng64 ((0 : Int64) + k0_); have s1 := c_ladd ((0 : Int64) + k0_) k1_; have r1 := rng64 (((0 : Int64) + k0_) + k1_); omega
              rw [e] at hc
              exact ⟨o0, o1, hc⟩
          ·
            have a45 : ∀ t, Steps p.tables e below (T38.setTop (mkF m 79 #[.val (.ref ar_), .val (.int p1), .val (.ref b4), .val (.long (((0 : Int64) + k0_) + k1_)), .second, .val (.int (2 : Int32)), .val (.long k1_), .second] [.null])) t → Steps p.tables e below (s₁.setTop (entryFrame m #[(.ref ar_), (.int p1)] 8)) t := by
              intro t k
              refine a42 t ?_
              show Steps p.tables e below (T38.setTop (mkF m 71 #[.val (.ref ar_), .val (.int p1), .val (.ref b4), .val (.long (((0 : Int64) + k0_) + k1_)), .second, .val (.int (2 : Int32)), .val (.long k1_), .second] [(.int (lcmpW (((0 : Int64) + k0_) + k1_) (p1.toInt64)))])) _
              refine XS.ifYes X38.here hx rfl (pc0 := 71) (pc' := 78) rfl (hb hby d3_71) rfl ((if0 _ _).trans (feq (fun q => hc71_43 ((lw_eq (((0 : Int64) + k0_) + k1_) (p1.toInt64)).mp q))).2) (by decide) (by decide) ?_
              refine XS.aconstNull X38.here hx rfl (hb hby d3_78) ?_
              exact k
            obtain ⟨fs, hr, hrun, hended, hW, hsame⟩ := X38.leave (v := some .null) (fun h => by rw [Bd.returns] at h; cases h)
            refine ⟨_, _, a45 _ ?_, hrun, hended, _, _, rfl, ?_, ⟨_, rfl⟩, hW, hsame.mono (by decide) (by decide)⟩
            · show Steps p.tables e below (T38.setTop (mkF m 79 #[.val (.ref ar_), .val (.int p1), .val (.ref b4), .val (.long (((0 : Int64) + k0_) + k1_)), .second, .val (.int (2 : Int32)), .val (.long k1_), .second] [.null])) _
              exact retOut X38 hx Bd.returns rfl (Or.inr (Or.inr (Or.inr (Or.inr ⟨rfl, rfl, rfl⟩)))) (hb hby d3_79) hr
            · show QN2 Z ar_ p1 kk a0_ k0_ a1_ k1_ h0 n0 _ T38.heap _
              rw [e38]
              refine Or.inl ⟨rfl, ?_, N38, K38⟩
              unfold OwnG2
              have o0 := own_is_ok hc33_14 hc41_17
              have o1 := own_is_ok hc33_31 hc41_34
              have hc := hc71_43
              rw [← Int64.toInt_inj, c_i2l] at hc
              have e : ((((0 : Int64) + k0_) + k1_) : Int64).toInt = k0_.toInt + k1_.toInt := by
                unfold OwnOk OwnD at *; have e0 := own_z64; have s0 := c_ladd (0 : Int64) k0_; have r0 := rng64 ((0 : Int64) + k0_); have s1 := c_ladd ((0 : Int64) + k0_) k1_; have r1 := rng64 (((0 : Int64) + k0_) + k1_); omega
              rw [e] at hc
              intro q
              exact hc q.2.2
theorem ef_rmN3 (m : MethodId) (x0 : Addr) (x1 : Int32) : entryFrame m #[(.ref x0), (.int x1)] 8 = mkF m 0 #[.val (.ref x0), .val (.int x1), .unset, .unset, .unset, .unset, .unset, .unset] [] := by first | (simp [entryFrame, mkF, argsToLocals, Value.category]; done) | rfl
def QN3 (Z : State) (ar_ : Addr) (p1 : Int32) (kk : ClassId) (a0_ k0_ : Int64) (a1_ k1_ : Int64) (a2_ k2_ : Int64) (h0 : Heap) (n0 : Nat) (v : Option Value) (h : Heap) (L : List Loc) : Prop := (v = some .null ∧ ¬ OwnG3 k0_ k1_ k2_ p1 ∧ Fr n0 L ∧ Keep h0 h []) ∨ (∃ (b : Addr) (kb : ClassId), v = some (.ref b) ∧ OwnG3 k0_ k1_ k2_ p1 ∧ Fr n0 L ∧ Keep h0 h [] ∧ Arv Z h b kb .double (3 : Int32) [(.double (FP.ddiv (FP.l2d k0_) (FP.i2d p1))), (.double (FP.ddiv (FP.l2d k1_) (FP.i2d p1))), (.double (FP.ddiv (FP.l2d k2_) (FP.i2d p1)))] (.double (0 : UInt64)))
set_option maxRecDepth 65536 in
set_option maxHeartbeats 40000000 in
theorem rmN3 (l : Launch) (Z : State) (a0 : Array Value) (hw : ∀ d ∈ tables_1, d.before a0 Z = true) (ws : List Jvm.Cond) (ar_ : Addr) (p1 : Int32) (kk : ClassId) (a0_ k0_ : Int64) (a1_ k1_ : Int64) (a2_ k2_ : Int64) (h0 : Heap) (n0 : Nat) (Z0 : n0 ≤ h0.size) (A0 : Arv Z h0 ar_ kk .double (3 : Int32) [(.double (FP.ddiv (FP.l2d a0_) (4652218415073722368 : UInt64))), (.double (FP.ddiv (FP.l2d a1_) (4652218415073722368 : UInt64))), (.double (FP.ddiv (FP.l2d a2_) (4652218415073722368 : UInt64)))] (.double (0 : UInt64))) (hdd : OwnD p1) (hk0 : OwnK a0_ p1 k0_) (hk1 : OwnK a1_ p1 k1_) (hk2 : OwnK a2_ p1 k2_) :
    MetFree l (⟨"com/example/tillerfront/tillerfront/engine/ReferencePoints", "nearest", "([DI)[D"⟩ : MethodName) (head1 (Jvm.Cond.code (⟨"com/example/tillerfront/tillerfront/engine/ReferencePoints", "nearest", "([DI)[D"⟩ : MethodName) prog_30_method_5_code 8 (some (.array .double)) :: ws) ({ frames := 2, cells := 1, slots := 3, locals := 60 } : Room)) (fun a U => a = #[(.ref ar_), (.int p1)] ∧ Z.Warmed39 U.vm ∧ U.heap = h0) (fun _ _ _ _ _ => True) (fun _ U o U' => ∃ v L, o = .returned v ∧ QN3 Z ar_ p1 kk a0_ k0_ a1_ k1_ a2_ k2_ h0 n0 v U'.heap L ∧ FrameEnd U o U' L ({ frames := 2, cells := 1, slots := 3, locals := 60 } : Room).cells ({ frames := 2, cells := 1, slots := 3, locals := 60 } : Room).slots) := by
  refine MetFree.of_bodySF (plainFor_of_name own_pn_com_example_tillerfront_tillerfront_engine_ReferencePoints) hisR ?_
  intro p e s m args below meth c s₁ Bd hml0 hP hK
  obtain ⟨rfl, hZ, hh⟩ := hP
  have hx := Bd.exec
  have hby := Bd.bytes
  have hml : c.maxLocals = 8 := hml0
  have hown : s.vm.findClass "com/example/tillerfront/tillerfront/engine/ReferencePoints" = some m.cls := findClass_of_methodNamed Bd.named
  have hnm := (name_of_methodNamed Bd.named Bd.method).1
  have X0 : Stand p l e ({ frames := 2, cells := 1, slots := 3, locals := 60 } : Room) s m #[(.ref ar_), (.int p1)] below meth c s₁ [] 0 0 := Stand.of_body Bd
  have e0 : s₁.heap = h0 := by rw [← hh, Bd.state]; rfl
  have N0 := Fr.nil n0
  have pre0 : ∀ t, Steps p.tables e below (s₁.setTop (mkF m 0 #[.val (.ref ar_), .val (.int p1), .unset, .unset, .unset, .unset, .unset, .unset] [])) t → Steps p.tables e below (s₁.setTop (entryFrame m #[(.ref ar_), (.int p1)] 8)) t := fun t k => castTop (ef_rmN3 m ar_ p1) k
  have a1 : ∀ t, Steps p.tables e below (s₁.setTop (mkF m 1 #[.val (.ref ar_), .val (.int p1), .unset, .unset, .unset, .unset, .unset, .unset] [(.ref ar_)])) t → Steps p.tables e below (s₁.setTop (entryFrame m #[(.ref ar_), (.int p1)] 8)) t := by
    intro t k
    refine pre0 t ?_
    show Steps p.tables e below (s₁.setTop (mkF m 0 #[.val (.ref ar_), .val (.int p1), .unset, .unset, .unset, .unset, .unset, .unset] [])) _
    refine XS.aloadN X0.here hx rfl (hb hby d3_0) rfl rfl ?_
    exact k
  obtain ⟨cl2, Ar2, qc2, Sz2, Nn2, Hs2, Gs2⟩ := id A0
  have a3 : ∀ t, Steps p.tables e below (s₁.setTop (mkF m 2 #[.val (.ref ar_), .val (.int p1), .unset, .unset, .unset, .unset, .unset, .unset] [(.int (3 : Int32))])) t → Steps p.tables e below (s₁.setTop (entryFrame m #[(.ref ar_), (.int p1)] 8)) t := by
    intro t k
    refine a1 t ?_
    show Steps p.tables e below (s₁.setTop (mkF m 1 #[.val (.ref ar_), .val (.int p1), .unset, .unset, .unset, .unset, .unset, .unset] [(.ref ar_)])) _
    refine X0.arraylength hx (by rw [e0]; exact Ar2.1) (State.isArrayOf_alike hZ.alike Ar2.2.1) (g := (mkF m 1 #[.val (.ref ar_), .val (.int p1), .unset, .unset, .unset, .unset, .unset, .unset] [(.ref ar_)])) rfl rfl (hb hby d3_1) _ ?_
    rw [len_of Sz2 Nn2]
    exact k
  obtain ⟨T4, h4, kk4, X4, e4, E4, A4, st4⟩ := newP X0 hx hZ (hw _ (List.mem_of_getElem? (i := 11) rfl)) e0 (g := (mkF m 2 #[.val (.ref ar_), .val (.int p1), .unset, .unset, .unset, .unset, .unset, .unset] [(.int (3 : Int32))])) rfl (hb hby d3_2) rfl (by decide) (cap := 3) (by decide) (by decide) (by decide) (by decide)
  obtain ⟨b4, g4⟩ : ∃ z, z = h0.size := ⟨_, rfl⟩
  rw [← g4] at A4 st4
  have g_b4 : n0 ≤ b4 := Nat.le_trans Z0 (Nat.le_of_eq g4.symm)
  have sz_b4 : h0.size ≤ b4 := Nat.le_trans ((Keep.refl h0 [])).1 (Nat.le_of_eq g4.symm)
  have V_b4 : Arv Z h4 b4 kk4 .double (3 : Int32) [(.double (0 : UInt64)), (.double (0 : UInt64)), (.double (0 : UInt64))] (.double (0 : UInt64)) := (Arv.new A4 (by decide)).pad (pad_rep [] (.double (0 : UInt64)) 3)
  have K4 : Keep h0 h4 [] := Keep.ext (Keep.refl h0 []) E4
  have a5 : ∀ t, Steps p.tables e below (T4.setTop (mkF m 4 #[.val (.ref ar_), .val (.int p1), .unset, .unset, .unset, .unset, .unset, .unset] [(.ref b4)])) t → Steps p.tables e below (s₁.setTop (entryFrame m #[(.ref ar_), (.int p1)] 8)) t := fun t k => a3 t (st4 t k)
  have a6 : ∀ t, Steps p.tables e below (T4.setTop (mkF m 13 #[.val (.ref ar_), .val (.int p1), .val (.ref b4), .val (.long (0 : Int64)), .second, .val (.int (0 : Int32)), .unset, .unset] [(.ref ar_), (.int (0 : Int32))])) t → Steps p.tables e below (s₁.setTop (entryFrame m #[(.ref ar_), (.int p1)] 8)) t := by
    intro t k
    refine a5 t ?_
    show Steps p.tables e below (T4.setTop (mkF m 4 #[.val (.ref ar_), .val (.int p1), .unset, .unset, .unset, .unset, .unset, .unset] [(.ref b4)])) _
    refine XS.astoreN X4.here hx rfl (hb hby d3_4) rfl rfl (l' := #[.val (.ref ar_), .val (.int p1), .val (.ref b4), .unset, .unset, .unset, .unset, .unset]) rfl ?_
    refine XS.lconst X4.here hx rfl (hb hby d3_5) ?_
    refine XS.lstoreN X4.here hx rfl (hb hby d3_6) rfl (l' := #[.val (.ref ar_), .val (.int p1), .val (.ref b4), .val (.long (0 : Int64)), .second, .unset, .unset, .unset]) rfl ?_
    refine XS.iconst X4.here hx rfl (hb hby d3_7) ?_
    refine XS.istore X4.here hx rfl (hb hby d3_8) rfl (l' := #[.val (.ref ar_), .val (.int p1), .val (.ref b4), .val (.long (0 : Int64)), .second, .val (.int (0 : Int32)), .unset, .unset]) rfl ?_
    refine XS.iload X4.here hx rfl (hb hby d3_10) rfl ?_
    refine XS.aloadN X4.here hx rfl (hb hby d3_12) rfl rfl ?_
    exact k
  obtain ⟨cl7, Ar7, qc7, Sz7, Nn7, Hs7, Gs7⟩ := id (A0.ext E4)
  have a8 : ∀ t, Steps p.tables e below (T4.setTop (mkF m 20 #[.val (.ref ar_), .val (.int p1), .val (.ref b4), .val (.long (0 : Int64)), .second, .val (.int (0 : Int32)), .unset, .unset] [(.int (0 : Int32)), (.ref ar_)])) t → Steps p.tables e below (s₁.setTop (entryFrame m #[(.ref ar_), (.int p1)] 8)) t := by
    intro t k
    refine a6 t ?_
    show Steps p.tables e below (T4.setTop (mkF m 13 #[.val (.ref ar_), .val (.int p1), .val (.ref b4), .val (.long (0 : Int64)), .second, .val (.int (0 : Int32)), .unset, .unset] [(.ref ar_), (.int (0 : Int32))])) _
    refine X4.arraylength hx (by rw [e4]; exact Ar7.1) (State.isArrayOf_alike hZ.alike Ar7.2.1) (g := (mkF m 13 #[.val (.ref ar_), .val (.int p1), .val (.ref b4), .val (.long (0 : Int64)), .second, .val (.int (0 : Int32)), .unset, .unset] [(.ref ar_), (.int (0 : Int32))])) rfl rfl (hb hby d3_13) _ ?_
    rw [len_of Sz7 Nn7]
    refine XS.icmpNo X4.here hx rfl (hb hby d3_14) rfl (tlt (by decide)).2.1 ?_
    refine XS.aloadN X4.here hx rfl (hb hby d3_17) rfl rfl ?_
    refine XS.iload X4.here hx rfl (hb hby d3_18) rfl ?_
    exact k
  obtain ⟨cl9, Ar9, qc9, Sz9, Nn9, Hs9, Gs9⟩ := id (A0.ext E4)
  have hin9 : ¬ ((0 : Int32) < 0 ∨ cl9.slots.size ≤ ((0 : Int32)).toNatClampNeg) := inb_of Sz9 ⟨by decide, by decide⟩
  have hat9 := Hs9.at hin9 (v := (.double (FP.ddiv (FP.l2d a0_) (4652218415073722368 : UInt64)))) rfl
  have a10 : ∀ t, Steps p.tables e below (T4.setTop (mkF m 24 #[.val (.ref ar_), .val (.int p1), .val (.ref b4), .val (.long (0 : Int64)), .second, .val (.int (0 : Int32)), .unset, .unset] [(.double (FP.dmul (FP.ddiv (FP.l2d a0_) (4652218415073722368 : UInt64)) (FP.i2d p1)))])) t → Steps p.tables e below (s₁.setTop (entryFrame m #[(.ref ar_), (.int p1)] 8)) t := by
    intro t k
    refine a8 t ?_
    show Steps p.tables e below (T4.setTop (mkF m 20 #[.val (.ref ar_), .val (.int p1), .val (.ref b4), .val (.long (0 : Int64)), .second, .val (.int (0 : Int32)), .unset, .unset] [(.int (0 : Int32)), (.ref ar_)])) _
    refine X4.daload hx (j := (0 : Int32)) (v := (.double (FP.ddiv (FP.l2d a0_) (4652218415073722368 : UInt64)))) (by rw [e4]; exact Ar9.1) (State.isArrayOf_alike hZ.alike Ar9.2.1) Ar9.2.2 hin9 hat9 (g := (mkF m 20 #[.val (.ref ar_), .val (.int p1), .val (.ref b4), .val (.long (0 : Int64)), .second, .val (.int (0 : Int32)), .unset, .unset] [(.int (0 : Int32)), (.ref ar_)])) rfl rfl (hb hby d3_20) _ ?_
    refine XS.iloadN X4.here hx rfl (hb hby d3_21) rfl ?_
    refine XS.i2dS X4.here hx rfl (hb hby d3_22) rfl rfl ?_
    refine XS.dmulS X4.here hx rfl (hb hby d3_23) rfl (nn64 (own_xd hk0.1 hdd).1) rfl ?_
    exact k
  obtain ⟨_, _, ⟨T11, L11, k11, n11⟩, -, X11, ⟨Lc11, hQ11, l11, y11, z11⟩, st11⟩ := Jvm.LawKit.callS X4 hx (y := (⟨"java/lang/Math", "round", "(D)J"⟩ : MethodName)) hown (mvT hZ (hw _ (List.mem_of_getElem? (i := 17) rfl))) (mvT hZ (hw _ (List.mem_of_getElem? (i := 18) rfl))) (mvT hZ (hw _ (List.mem_of_getElem? (i := 19) rfl))) (mvT hZ (hw _ (List.mem_of_getElem? (i := 20) rfl))) (by decide) (backOf (W := 0) (rmRound l Z a0 hw [] (FP.dmul (FP.ddiv (FP.l2d a0_) (4652218415073722368 : UInt64)) (FP.i2d p1)) (a0_.toInt * p1.toInt) k0_ h4 n0 (Nat.le_trans Z0 E4.1) (own_xd hk0.1 hdd) (by have := own_prod_bd hk0.1 hdd; omega) hk0.2) hZ (hw _ (List.mem_of_getElem? (i := 20) rfl)) (hw _ (List.mem_of_getElem? (i := 19) rfl)) (by decide) (by decide)) (g := (mkF m 24 #[.val (.ref ar_), .val (.int p1), .val (.ref b4), .val (.long (0 : Int64)), .second, .val (.int (0 : Int32)), .unset, .unset] [(.double (FP.dmul (FP.ddiv (FP.l2d a0_) (4652218415073722368 : UInt64)) (FP.i2d p1)))])) rfl (by rw [hml]; rfl) (argsL := [(.double (FP.dmul (FP.ddiv (FP.l2d a0_) (4652218415073722368 : UInt64)) (FP.i2d p1)))]) (rest := []) (lenOf own_pd0 rfl) rfl (by show 2 * 0 + _ ≤ _; exact Nat.le_of_eq rfl) (hb hby d3_24) (fun _ _ => ⟨rfl, e4, (by decide : 1 + 0 ≤ _), (by decide : 3 + 0 ≤ _)⟩)
  dsimp only [Pt.U, Pt.locs, Pt.cells, Pt.slots] at X11 l11 y11 z11 st11 hQ11
  subst l11 y11 z11
  obtain ⟨rfl, N11q, e11q⟩ := hQ11
  have N11 := Fr.app N0 N11q
  have a12 : ∀ t, Steps p.tables e below (T11.setTop (mkF m 27 #[.val (.ref ar_), .val (.int p1), .val (.ref b4), .val (.long (0 : Int64)), .second, .val (.int (0 : Int32)), .unset, .unset] [(.long k0_)])) t → Steps p.tables e below (s₁.setTop (entryFrame m #[(.ref ar_), (.int p1)] 8)) t := fun t k => a10 t (st11 t k)
  have a13 : ∀ t, Steps p.tables e below (T11.setTop (mkF m 33 #[.val (.ref ar_), .val (.int p1), .val (.ref b4), .val (.long (0 : Int64)), .second, .val (.int (0 : Int32)), .val (.long k0_), .second] [(.int (lcmpW k0_ (0 : Int64)))])) t → Steps p.tables e below (s₁.setTop (entryFrame m #[(.ref ar_), (.int p1)] 8)) t := by
    intro t k
    refine a12 t ?_
    show Steps p.tables e below (T11.setTop (mkF m 27 #[.val (.ref ar_), .val (.int p1), .val (.ref b4), .val (.long (0 : Int64)), .second, .val (.int (0 : Int32)), .unset, .unset] [(.long k0_)])) _
    refine XS.lstore X11.here hx rfl (hb hby d3_27) rfl (l' := #[.val (.ref ar_), .val (.int p1), .val (.ref b4), .val (.long (0 : Int64)), .second, .val (.int (0 : Int32)), .val (.long k0_), .second]) rfl ?_
    refine XS.lload X11.here hx rfl (hb hby d3_29) rfl ?_
    refine XS.lconst X11.here hx rfl (hb hby d3_31) ?_
    refine XS.lcmp X11.here hx rfl (hb hby d3_32) rfl ?_
    exact k
  by_cases hc33_14 : k0_ < (0 : Int64)
  ·
    have a15 : ∀ t, Steps p.tables e below (T11.setTop (mkF m 45 #[.val (.ref ar_), .val (.int p1), .val (.ref b4), .val (.long (0 : Int64)), .second, .val (.int (0 : Int32)), .val (.long k0_), .second] [.null])) t → Steps p.tables e below (s₁.setTop (entryFrame m #[(.ref ar_), (.int p1)] 8)) t := by
      intro t k
      refine a13 t ?_
      show Steps p.tables e below (T11.setTop (mkF m 33 #[.val (.ref ar_), .val (.int p1), .val (.ref b4), .val (.long (0 : Int64)), .second, .val (.int (0 : Int32)), .val (.long k0_), .second] [(.int (lcmpW k0_ (0 : Int64)))])) _
      refine XS.ifYes X11.here hx rfl (pc0 := 33) (pc' := 44) rfl (hb hby d3_33) rfl ((if0 _ _).trans (tlt ((lw_lt k0_ (0 : Int64)).mpr hc33_14)).1) (by decide) (by decide) ?_
      refine XS.aconstNull X11.here hx rfl (hb hby d3_44) ?_
      exact k
    obtain ⟨fs, hr, hrun, hended, hW, hsame⟩ := X11.leave (v := some .null) (fun h => by rw [Bd.returns] at h; cases h)
    refine ⟨_, _, a15 _ ?_, hrun, hended, _, _, rfl, ?_, ⟨_, rfl⟩, hW, hsame.mono (by decide) (by decide)⟩
    · show Steps p.tables e below (T11.setTop (mkF m 45 #[.val (.ref ar_), .val (.int p1), .val (.ref b4), .val (.long (0 : Int64)), .second, .val (.int (0 : Int32)), .val (.long k0_), .second] [.null])) _
      exact retOut X11 hx Bd.returns rfl (Or.inr (Or.inr (Or.inr (Or.inr ⟨rfl, rfl, rfl⟩)))) (hb hby d3_45) hr
    · show QN3 Z ar_ p1 kk a0_ k0_ a1_ k1_ a2_ k2_ h0 n0 _ T11.heap _
      rw [e11q]
      exact Or.inl ⟨rfl, fun q => own_not_ok (Or.inl hc33_14) q.1, N11, K4⟩
  ·
    have a16 : ∀ t, Steps p.tables e below (T11.setTop (mkF m 41 #[.val (.ref ar_), .val (.int p1), .val (.ref b4), .val (.long (0 : Int64)), .second, .val (.int (0 : Int32)), .val (.long k0_), .second] [(.int (lcmpW k0_ (p1.toInt64)))])) t → Steps p.tables e below (s₁.setTop (entryFrame m #[(.ref ar_), (.int p1)] 8)) t := by
      intro t k
      refine a13 t ?_
      show Steps p.tables e below (T11.setTop (mkF m 33 #[.val (.ref ar_), .val (.int p1), .val (.ref b4), .val (.long (0 : Int64)), .second, .val (.int (0 : Int32)), .val (.long k0_), .second] [(.int (lcmpW k0_ (0 : Int64)))])) _
      refine XS.ifNo X11.here hx rfl (hb hby d3_33) rfl ((if0 _ _).trans (flt (fun q => hc33_14 ((lw_lt k0_ (0 : Int64)).mp q))).1) ?_
      refine XS.lload X11.here hx rfl (hb hby d3_36) rfl ?_
      refine XS.iloadN X11.here hx rfl (hb hby d3_38) rfl ?_
      refine XS.i2l X11.here hx rfl (hb hby d3_39) rfl ?_
      refine XS.lcmp X11.here hx rfl (hb hby d3_40) rfl ?_
      exact k
    by_cases hc41_17 : (p1.toInt64) < k0_
    ·
      have a18 : ∀ t, Steps p.tables e below (T11.setTop (mkF m 45 #[.val (.ref ar_), .val (.int p1), .val (.ref b4), .val (.long (0 : Int64)), .second, .val (.int (0 : Int32)), .val (.long k0_), .second] [.null])) t → Steps p.tables e below (s₁.setTop (entryFrame m #[(.ref ar_), (.int p1)] 8)) t := by
        intro t k
        refine a16 t ?_
        show Steps p.tables e below (T11.setTop (mkF m 41 #[.val (.ref ar_), .val (.int p1), .val (.ref b4), .val (.long (0 : Int64)), .second, .val (.int (0 : Int32)), .val (.long k0_), .second] [(.int (lcmpW k0_ (p1.toInt64)))])) _
        refine XS.ifNo X11.here hx rfl (hb hby d3_41) rfl ((if0 _ _).trans (tlt ((lw_gt k0_ (p1.toInt64)).mpr hc41_17)).2.2.2) ?_
        refine XS.aconstNull X11.here hx rfl (hb hby d3_44) ?_
        exact k
      obtain ⟨fs, hr, hrun, hended, hW, hsame⟩ := X11.leave (v := some .null) (fun h => by rw [Bd.returns] at h; cases h)
      refine ⟨_, _, a18 _ ?_, hrun, hended, _, _, rfl, ?_, ⟨_, rfl⟩, hW, hsame.mono (by decide) (by decide)⟩
      · show Steps p.tables e below (T11.setTop (mkF m 45 #[.val (.ref ar_), .val (.int p1), .val (.ref b4), .val (.long (0 : Int64)), .second, .val (.int (0 : Int32)), .val (.long k0_), .second] [.null])) _
        exact retOut X11 hx Bd.returns rfl (Or.inr (Or.inr (Or.inr (Or.inr ⟨rfl, rfl, rfl⟩)))) (hb hby d3_45) hr
      · show QN3 Z ar_ p1 kk a0_ k0_ a1_ k1_ a2_ k2_ h0 n0 _ T11.heap _
        rw [e11q]
        exact Or.inl ⟨rfl, fun q => own_not_ok (Or.inr hc41_17) q.1, N11, K4⟩
    ·
      have a19 : ∀ t, Steps p.tables e below (T11.setTop (mkF m 60 #[.val (.ref ar_), .val (.int p1), .val (.ref b4), .val (.long ((0 : Int64) + k0_)), .second, .val (.int (0 : Int32)), .val (.long k0_), .second] [(.double (FP.ddiv (FP.l2d k0_) (FP.i2d p1))), (.int (0 : Int32)), (.ref b4)])) t → Steps p.tables e below (s₁.setTop (entryFrame m #[(.ref ar_), (.int p1)] 8)) t := by
        intro t k
        refine a16 t ?_
        show Steps p.tables e below (T11.setTop (mkF m 41 #[.val (.ref ar_), .val (.int p1), .val (.ref b4), .val (.long (0 : Int64)), .second, .val (.int (0 : Int32)), .val (.long k0_), .second] [(.int (lcmpW k0_ (p1.toInt64)))])) _
        refine XS.ifYes X11.here hx rfl (pc0 := 41) (pc' := 46) rfl (hb hby d3_41) rfl ((if0 _ _).trans (flt (fun q => hc41_17 ((lw_gt k0_ (p1.toInt64)).mp q))).2.2.2) (by decide) (by decide) ?_
        refine XS.lloadN X11.here hx rfl (hb hby d3_46) rfl ?_
        refine XS.lload X11.here hx rfl (hb hby d3_47) rfl ?_
        refine XS.ladd X11.here hx rfl (hb hby d3_49) rfl ?_
        refine XS.lstoreN X11.here hx rfl (hb hby d3_50) rfl (l' := #[.val (.ref ar_), .val (.int p1), .val (.ref b4), .val (.long ((0 : Int64) + k0_)), .second, .val (.int (0 : Int32)), .val (.long k0_), .second]) rfl ?_
        refine XS.aloadN X11.here hx rfl (hb hby d3_51) rfl rfl ?_
        refine XS.iload X11.here hx rfl (hb hby d3_52) rfl ?_
        refine XS.lload X11.here hx rfl (hb hby d3_54) rfl ?_
        refine XS.l2dS X11.here hx rfl (hb hby d3_56) rfl rfl ?_
        refine XS.iloadN X11.here hx rfl (hb hby d3_57) rfl ?_
        refine XS.i2dS X11.here hx rfl (hb hby d3_58) rfl rfl ?_
        refine XS.ddivS X11.here hx rfl (hb hby d3_59) rfl (own_kd hdd) rfl ?_
        exact k
      obtain ⟨cl20, Ar20, qc20, Sz20, Nn20, Hs20, Gs20⟩ := id V_b4
      have hin20 : ¬ ((0 : Int32) < 0 ∨ cl20.slots.size ≤ ((0 : Int32)).toNatClampNeg) := inb_of Sz20 ⟨by decide, by decide⟩
      obtain ⟨T21, h21, X21, e21, W21, st21⟩ := stD X11 hx hZ e11q Ar20 (j := (0 : Int32)) hin20 (g := (mkF m 60 #[.val (.ref ar_), .val (.int p1), .val (.ref b4), .val (.long ((0 : Int64) + k0_)), .second, .val (.int (0 : Int32)), .val (.long k0_), .second] [(.double (FP.ddiv (FP.l2d k0_) (FP.i2d p1))), (.int (0 : Int32)), (.ref b4)])) rfl rfl (hb hby d3_60)
      have V21 : Arv Z h21 b4 kk4 .double (3 : Int32) [(.double (FP.ddiv (FP.l2d k0_) (FP.i2d p1))), (.double (0 : UInt64)), (.double (0 : UInt64))] (.double (0 : UInt64)) := Arv.set Ar20 qc20 Sz20 Nn20 Hs20 Gs20 rfl W21 0 rfl (Nat.le_of_ble_eq_true rfl)
      have N21 := Fr.snoc X21 N11 g_b4
      have K21 : Keep h0 h21 [] := Keep.wr K4 W21 (Or.inr sz_b4)
      have a22 : ∀ t, Steps p.tables e below (T21.setTop (mkF m 61 #[.val (.ref ar_), .val (.int p1), .val (.ref b4), .val (.long ((0 : Int64) + k0_)), .second, .val (.int (0 : Int32)), .val (.long k0_), .second] [])) t → Steps p.tables e below (s₁.setTop (entryFrame m #[(.ref ar_), (.int p1)] 8)) t := fun t k => a19 t (st21 t k)
      have a23 : ∀ t, Steps p.tables e below (T21.setTop (mkF m 13 #[.val (.ref ar_), .val (.int p1), .val (.ref b4), .val (.long ((0 : Int64) + k0_)), .second, .val (.int (1 : Int32)), .val (.long k0_), .second] [(.ref ar_), (.int (1 : Int32))])) t → Steps p.tables e below (s₁.setTop (entryFrame m #[(.ref ar_), (.int p1)] 8)) t := by
        intro t k
        refine a22 t ?_
        show Steps p.tables e below (T21.setTop (mkF m 61 #[.val (.ref ar_), .val (.int p1), .val (.ref b4), .val (.long ((0 : Int64) + k0_)), .second, .val (.int (0 : Int32)), .val (.long k0_), .second] [])) _
        refine XS.iinc X21.here hx rfl (hb hby d3_61) rfl (l' := #[.val (.ref ar_), .val (.int p1), .val (.ref b4), .val (.long ((0 : Int64) + k0_)), .second, .val (.int (1 : Int32)), .val (.long k0_), .second]) rfl ?_
        refine XS.goto X21.here hx rfl (pc0 := 64) (pc' := 10) rfl (hb hby d3_64) (by decide) (by decide) ?_
        refine XS.iload X21.here hx rfl (hb hby d3_10) rfl ?_
        refine XS.aloadN X21.here hx rfl (hb hby d3_12) rfl rfl ?_
        exact k
      obtain ⟨cl24, Ar24, qc24, Sz24, Nn24, Hs24, Gs24⟩ := id (Arv.other (A0.ext E4) W21 (Nat.ne_of_lt (Nat.lt_of_lt_of_le A0.lt (Nat.le_of_eq g4.symm))))
      have a25 : ∀ t, Steps p.tables e below (T21.setTop (mkF m 20 #[.val (.ref ar_), .val (.int p1), .val (.ref b4), .val (.long ((0 : Int64) + k0_)), .second, .val (.int (1 : Int32)), .val (.long k0_), .second] [(.int (1 : Int32)), (.ref ar_)])) t → Steps p.tables e below (s₁.setTop (entryFrame m #[(.ref ar_), (.int p1)] 8)) t := by
        intro t k
        refine a23 t ?_
        show Steps p.tables e below (T21.setTop (mkF m 13 #[.val (.ref ar_), .val (.int p1), .val (.ref b4), .val (.long ((0 : Int64) + k0_)), .second, .val (.int (1 : Int32)), .val (.long k0_), .second] [(.ref ar_), (.int (1 : Int32))])) _
        refine X21.arraylength hx (by rw [e21]; exact Ar24.1) (State.isArrayOf_alike hZ.alike Ar24.2.1) (g := (mkF m 13 #[.val (.ref ar_), .val (.int p1), .val (.ref b4), .val (.long ((0 : Int64) + k0_)), .second, .val (.int (1 : Int32)), .val (.long k0_), .second] [(.ref ar_), (.int (1 : Int32))])) rfl rfl (hb hby d3_13) _ ?_
        rw [len_of Sz24 Nn24]
        refine XS.icmpNo X21.here hx rfl (hb hby d3_14) rfl (tlt (by decide)).2.1 ?_
        refine XS.aloadN X21.here hx rfl (hb hby d3_17) rfl rfl ?_
        refine XS.iload X21.here hx rfl (hb hby d3_18) rfl ?_
        exact k
      obtain ⟨cl26, Ar26, qc26, Sz26, Nn26, Hs26, Gs26⟩ := id (Arv.other (A0.ext E4) W21 (Nat.ne_of_lt (Nat.lt_of_lt_of_le A0.lt (Nat.le_of_eq g4.symm))))
      have hin26 : ¬ ((1 : Int32) < 0 ∨ cl26.slots.size ≤ ((1 : Int32)).toNatClampNeg) := inb_of Sz26 ⟨by decide, by decide⟩
      have hat26 := Hs26.at hin26 (v := (.double (FP.ddiv (FP.l2d a1_) (4652218415073722368 : UInt64)))) rfl
      have a27 : ∀ t, Steps p.tables e below (T21.setTop (mkF m 24 #[.val (.ref ar_), .val (.int p1), .val (.ref b4), .val (.long ((0 : Int64) + k0_)), .second, .val (.int (1 : Int32)), .val (.long k0_), .second] [(.double (FP.dmul (FP.ddiv (FP.l2d a1_) (4652218415073722368 : UInt64)) (FP.i2d p1)))])) t → Steps p.tables e below (s₁.setTop (entryFrame m #[(.ref ar_), (.int p1)] 8)) t := by
        intro t k
        refine a25 t ?_
        show Steps p.tables e below (T21.setTop (mkF m 20 #[.val (.ref ar_), .val (.int p1), .val (.ref b4), .val (.long ((0 : Int64) + k0_)), .second, .val (.int (1 : Int32)), .val (.long k0_), .second] [(.int (1 : Int32)), (.ref ar_)])) _
        refine X21.daload hx (j := (1 : Int32)) (v := (.double (FP.ddiv (FP.l2d a1_) (4652218415073722368 : UInt64)))) (by rw [e21]; exact Ar26.1) (State.isArrayOf_alike hZ.alike Ar26.2.1) Ar26.2.2 hin26 hat26 (g := (mkF m 20 #[.val (.ref ar_), .val (.int p1), .val (.ref b4), .val (.long ((0 : Int64) + k0_)), .second, .val (.int (1 : Int32)), .val (.long k0_), .second] [(.int (1 : Int32)), (.ref ar_)])) rfl rfl (hb hby d3_20) _ ?_
        refine XS.iloadN X21.here hx rfl (hb hby d3_21) rfl ?_
        refine XS.i2dS X21.here hx rfl (hb hby d3_22) rfl rfl ?_
        refine XS.dmulS X21.here hx rfl (hb hby d3_23) rfl (nn64 (own_xd hk1.1 hdd).1) rfl ?_
        exact k
      obtain ⟨_, _, ⟨T28, L28, k28, n28⟩, -, X28, ⟨Lc28, hQ28, l28, y28, z28⟩, st28⟩ := Jvm.LawKit.callS X21 hx (y := (⟨"java/lang/Math", "round", "(D)J"⟩ : MethodName)) hown (mvT hZ (hw _ (List.mem_of_getElem? (i := 17) rfl))) (mvT hZ (hw _ (List.mem_of_getElem? (i := 18) rfl))) (mvT hZ (hw _ (List.mem_of_getElem? (i := 19) rfl))) (mvT hZ (hw _ (List.mem_of_getElem? (i := 20) rfl))) (by decide) (backOf (W := 0) (rmRound l Z a0 hw [] (FP.dmul (FP.ddiv (FP.l2d a1_) (4652218415073722368 : UInt64)) (FP.i2d p1)) (a1_.toInt * p1.toInt) k1_ h21 n0 (Nat.le_trans (Nat.le_trans Z0 E4.1) (Keep.of_wr W21).1) (own_xd hk1.1 hdd) (by have := own_prod_bd hk1.1 hdd; omega) hk1.2) hZ (hw _ (List.mem_of_getElem? (i := 20) rfl)) (hw _ (List.mem_of_getElem? (i := 19) rfl)) (by decide) (by decide)) (g := (mkF m 24 #[.val (.ref ar_), .val (.int p1), .val (.ref b4), .val (.long ((0 : Int64) + k0_)), .second, .val (.int (1 : Int32)), .val (.long k0_), .second] [(.double (FP.dmul (FP.ddiv (FP.l2d a1_) (4652218415073722368 : UInt64)) (FP.i2d p1)))])) rfl (by rw [hml]; rfl) (argsL := [(.double (FP.dmul (FP.ddiv (FP.l2d a1_) (4652218415073722368 : UInt64)) (FP.i2d p1)))]) (rest := []) (lenOf own_pd0 rfl) rfl (by show 2 * 0 + _ ≤ _; exact Nat.le_of_eq rfl) (hb hby d3_24) (fun _ _ => ⟨rfl, e21, (by decide : 1 + 0 ≤ _), (by decide : 3 + 0 ≤ _)⟩)
      dsimp only [Pt.U, Pt.locs, Pt.cells, Pt.slots] at X28 l28 y28 z28 st28 hQ28
      subst l28 y28 z28
      obtain ⟨rfl, N28q, e28q⟩ := hQ28
      have N28 := Fr.app N21 N28q
      have a29 : ∀ t, Steps p.tables e below (T28.setTop (mkF m 27 #[.val (.ref ar_), .val (.int p1), .val (.ref b4), .val (.long ((0 : Int64) + k0_)), .second, .val (.int (1 : Int32)), .val (.long k0_), .second] [(.long k1_)])) t → Steps p.tables e below (s₁.setTop (entryFrame m #[(.ref ar_), (.int p1)] 8)) t := fun t k => a27 t (st28 t k)
      have a30 : ∀ t, Steps p.tables e below (T28.setTop (mkF m 33 #[.val (.ref ar_), .val (.int p1), .val (.ref b4), .val (.long ((0 : Int64) + k0_)), .second, .val (.int (1 : Int32)), .val (.long k1_), .second] [(.int (lcmpW k1_ (0 : Int64)))])) t → Steps p.tables e below (s₁.setTop (entryFrame m #[(.ref ar_), (.int p1)] 8)) t := by
        intro t k
        refine a29 t ?_
        show Steps p.tables e below (T28.setTop (mkF m 27 #[.val (.ref ar_), .val (.int p1), .val (.ref b4), .val (.long ((0 : Int64) + k0_)), .second, .val (.int (1 : Int32)), .val (.long k0_), .second] [(.long k1_)])) _
        refine XS.lstore X28.here hx rfl (hb hby d3_27) rfl (l' := #[.val (.ref ar_), .val (.int p1), .val (.ref b4), .val (.long ((0 : Int64) + k0_)), .second, .val (.int (1 : Int32)), .val (.long k1_), .second]) rfl ?_
        refine XS.lload X28.here hx rfl (hb hby d3_29) rfl ?_
        refine XS.lconst X28.here hx rfl (hb hby d3_31) ?_
        refine XS.lcmp X28.here hx rfl (hb hby d3_32) rfl ?_
        exact k
      by_cases hc33_31 : k1_ < (0 : Int64)
      ·
        have a32 : ∀ t, Steps p.tables e below (T28.setTop (mkF m 45 #[.val (.ref ar_), .val (.int p1), .val (.ref b4), .val (.long ((0 : Int64) + k0_)), .second, .val (.int (1 : Int32)), .val (.long k1_), .second] [.null])) t → Steps p.tables e below (s₁.setTop (entryFrame m #[(.ref ar_), (.int p1)] 8)) t := by
          intro t k
          refine a30 t ?_
          show Steps p.tables e below (T28.setTop (mkF m 33 #[.val (.ref ar_), .val (.int p1), .val (.ref b4), .val (.long ((0 : Int64) + k0_)), .second, .val (.int (1 : Int32)), .val (.long k1_), .second] [(.int (lcmpW k1_ (0 : Int64)))])) _
          refine XS.ifYes X28.here hx rfl (pc0 := 33) (pc' := 44) rfl (hb hby d3_33) rfl ((if0 _ _).trans (tlt ((lw_lt k1_ (0 : Int64)).mpr hc33_31)).1) (by decide) (by decide) ?_
          refine XS.aconstNull X28.here hx rfl (hb hby d3_44) ?_
          exact k
        obtain ⟨fs, hr, hrun, hended, hW, hsame⟩ := X28.leave (v := some .null) (fun h => by rw [Bd.returns] at h; cases h)
        refine ⟨_, _, a32 _ ?_, hrun, hended, _, _, rfl, ?_, ⟨_, rfl⟩, hW, hsame.mono (by decide) (by decide)⟩
        · show Steps p.tables e below (T28.setTop (mkF m 45 #[.val (.ref ar_), .val (.int p1), .val (.ref b4), .val (.long ((0 : Int64) + k0_)), .second, .val (.int (1 : Int32)), .val (.long k1_), .second] [.null])) _
          exact retOut X28 hx Bd.returns rfl (Or.inr (Or.inr (Or.inr (Or.inr ⟨rfl, rfl, rfl⟩)))) (hb hby d3_45) hr
        · show QN3 Z ar_ p1 kk a0_ k0_ a1_ k1_ a2_ k2_ h0 n0 _ T28.heap _
          rw [e28q]
          exact Or.inl ⟨rfl, fun q => own_not_ok (Or.inl hc33_31) q.2.1, N28, K21⟩
      ·
        have a33 : ∀ t, Steps p.tables e below (T28.setTop (mkF m 41 #[.val (.ref ar_), .val (.int p1), .val (.ref b4), .val (.long ((0 : Int64) + k0_)), .second, .val (.int (1 : Int32)), .val (.long k1_), .second] [(.int (lcmpW k1_ (p1.toInt64)))])) t → Steps p.tables e below (s₁.setTop (entryFrame m #[(.ref ar_), (.int p1)] 8)) t := by
          intro t k
          refine a30 t ?_
          show Steps p.tables e below (T28.setTop (mkF m 33 #[.val (.ref ar_), .val (.int p1), .val (.ref b4), .val (.long ((0 : Int64) + k0_)), .second, .val (.int (1 : Int32)), .val (.long k1_), .second] [(.int (lcmpW k1_ (0 : Int64)))])) _
          refine XS.ifNo X28.here hx rfl (hb hby d3_33) rfl ((if0 _ _).trans (flt (fun q => hc33_31 ((lw_lt k1_ (0 : Int64)).mp q))).1) ?_
          refine XS.lload X28.here hx rfl (hb hby d3_36) rfl ?_
          refine XS.iloadN X28.here hx rfl (hb hby d3_38) rfl ?_
          refine XS.i2l X28.here hx rfl (hb hby d3_39) rfl ?_
          refine XS.lcmp X28.here hx rfl (hb hby d3_40) rfl ?_
          exact k
        by_cases hc41_34 : (p1.toInt64) < k1_
        ·
          have a35 : ∀ t, Steps p.tables e below (T28.setTop (mkF m 45 #[.val (.ref ar_), .val (.int p1), .val (.ref b4), .val (.long ((0 : Int64) + k0_)), .second, .val (.int (1 : Int32)), .val (.long k1_), .second] [.null])) t → Steps p.tables e below (s₁.setTop (entryFrame m #[(.ref ar_), (.int p1)] 8)) t := by
            intro t k
            refine a33 t ?_
            show Steps p.tables e below (T28.setTop (mkF m 41 #[.val (.ref ar_), .val (.int p1), .val (.ref b4), .val (.long ((0 : Int64) + k0_)), .second, .val (.int (1 : Int32)), .val (.long k1_), .second] [(.int (lcmpW k1_ (p1.toInt64)))])) _
            refine XS.ifNo X28.here hx rfl (hb hby d3_41) rfl ((if0 _ _).trans (tlt ((lw_gt k1_ (p1.toInt64)).mpr hc41_34)).2.2.2) ?_
            refine XS.aconstNull X28.here hx rfl (hb hby d3_44) ?_
            exact k
          obtain ⟨fs, hr, hrun, hended, hW, hsame⟩ := X28.leave (v := some .null) (fun h => by rw [Bd.returns] at h; cases h)
          refine ⟨_, _, a35 _ ?_, hrun, hended, _, _, rfl, ?_, ⟨_, rfl⟩, hW, hsame.mono (by decide) (by decide)⟩
          · show Steps p.tables e below (T28.setTop (mkF m 45 #[.val (.ref ar_), .val (.int p1), .val (.ref b4), .val (.long ((0 : Int64) + k0_)), .second, .val (.int (1 : Int32)), .val (.long k1_), .second] [.null])) _
            exact retOut X28 hx Bd.returns rfl (Or.inr (Or.inr (Or.inr (Or.inr ⟨rfl, rfl, rfl⟩)))) (hb hby d3_45) hr
          · show QN3 Z ar_ p1 kk a0_ k0_ a1_ k1_ a2_ k2_ h0 n0 _ T28.heap _
            rw [e28q]
            exact Or.inl ⟨rfl, fun q => own_not_ok (Or.inr hc41_34) q.2.1, N28, K21⟩
        ·
          have a36 : ∀ t, Steps p.tables e below (T28.setTop (mkF m 60 #[.val (.ref ar_), .val (.int p1), .val (.ref b4), .val (.long (((0 : Int64) + k0_) + k1_)), .second, .val (.int (1 : Int32)), .val (.long k1_), .second] [(.double (FP.ddiv (FP.l2d k1_) (FP.i2d p1))), (.int (1 : Int32)), (.ref b4)])) t → Steps p.tables e below (s₁.setTop (entryFrame m #[(.ref ar_), (.int p1)] 8)) t := by
            intro t k
            refine a33 t ?_
            show Steps p.tables e below (T28.setTop (mkF m 41 #[.val (.ref ar_), .val (.int p1), .val (.ref b4), .val (.long ((0 : Int64) + k0_)), .second, .val (.int (1 : Int32)), .val (.long k1_), .second] [(.int (lcmpW k1_ (p1.toInt64)))])) _
            refine XS.ifYes X28.here hx rfl (pc0 := 41) (pc' := 46) rfl (hb hby d3_41) rfl ((if0 _ _).trans (flt (fun q => hc41_34 ((lw_gt k1_ (p1.toInt64)).mp q))).2.2.2) (by decide) (by decide) ?_
            refine XS.lloadN X28.here hx rfl (hb hby d3_46) rfl ?_
            refine XS.lload X28.here hx rfl (hb hby d3_47) rfl ?_
            refine XS.ladd X28.here hx rfl (hb hby d3_49) rfl ?_
            refine XS.lstoreN X28.here hx rfl (hb hby d3_50) rfl (l' := #[.val (.ref ar_), .val (.int p1), .val (.ref b4), .val (.long (((0 : Int64) + k0_) + k1_)), .second, .val (.int (1 : Int32)), .val (.long k1_), .second]) rfl ?_
            refine XS.aloadN X28.here hx rfl (hb hby d3_51) rfl rfl ?_
            refine XS.iload X28.here hx rfl (hb hby d3_52) rfl ?_
            refine XS.lload X28.here hx rfl (hb hby d3_54) rfl ?_
            refine XS.l2dS X28.here hx rfl (hb hby d3_56) rfl rfl ?_
            refine XS.iloadN X28.here hx rfl (hb hby d3_57) rfl ?_
            refine XS.i2dS X28.here hx rfl (hb hby d3_58) rfl rfl ?_
            refine XS.ddivS X28.here hx rfl (hb hby d3_59) rfl (own_kd hdd) rfl ?_
            exact k
          obtain ⟨cl37, Ar37, qc37, Sz37, Nn37, Hs37, Gs37⟩ := id V21
          have hin37 : ¬ ((1 : Int32) < 0 ∨ cl37.slots.size ≤ ((1 : Int32)).toNatClampNeg) := inb_of Sz37 ⟨by decide, by decide⟩
          obtain ⟨T38, h38, X38, e38, W38, st38⟩ := stD X28 hx hZ e28q Ar37 (j := (1 : Int32)) hin37 (g := (mkF m 60 #[.val (.ref ar_), .val (.int p1), .val (.ref b4), .val (.long (((0 : Int64) + k0_) + k1_)), .second, .val (.int (1 : Int32)), .val (.long k1_), .second] [(.double (FP.ddiv (FP.l2d k1_) (FP.i2d p1))), (.int (1 : Int32)), (.ref b4)])) rfl rfl (hb hby d3_60)
          have V38 : Arv Z h38 b4 kk4 .double (3 : Int32) [(.double (FP.ddiv (FP.l2d k0_) (FP.i2d p1))), (.double (FP.ddiv (FP.l2d k1_) (FP.i2d p1))), (.double (0 : UInt64))] (.double (0 : UInt64)) := Arv.set Ar37 qc37 Sz37 Nn37 Hs37 Gs37 rfl W38 1 rfl (Nat.le_of_ble_eq_true rfl)
          have N38 := Fr.snoc X38 N28 g_b4
          have K38 : Keep h0 h38 [] := Keep.wr K21 W38 (Or.inr sz_b4)
          have a39 : ∀ t, Steps p.tables e below (T38.setTop (mkF m 61 #[.val (.ref ar_), .val (.int p1), .val (.ref b4), .val (.long (((0 : Int64) + k0_) + k1_)), .second, .val (.int (1 : Int32)), .val (.long k1_), .second] [])) t → Steps p.tables e below (s₁.setTop (entryFrame m #[(.ref ar_), (.int p1)] 8)) t := fun t k => a36 t (st38 t k)
          have a40 : ∀ t, Steps p.tables e below (T38.setTop (mkF m 13 #[.val (.ref ar_), .val (.int p1), .val (.ref b4), .val (.long (((0 : Int64) + k0_) + k1_)), .second, .val (.int (2 : Int32)), .val (.long k1_), .second] [(.ref ar_), (.int (2 : Int32))])) t → Steps p.tables e below (s₁.setTop (entryFrame m #[(.ref ar_), (.int p1)] 8)) t := by
            intro t k
            refine a39 t ?_
            show Steps p.tables e below (T38.setTop (mkF m 61 #[.val (.ref ar_), .val (.int p1), .val (.ref b4), .val (.long (((0 : Int64) + k0_) + k1_)), .second, .val (.int (1 : Int32)), .val (.long k1_), .second] [])) _
            refine XS.iinc X38.here hx rfl (hb hby d3_61) rfl (l' := #[.val (.ref ar_), .val (.int p1), .val (.ref b4), .val (.long (((0 : Int64) + k0_) + k1_)), .second, .val (.int (2 : Int32)), .val (.long k1_), .second]) rfl ?_
            refine XS.goto X38.here hx rfl (pc0 := 64) (pc' := 10) rfl (hb hby d3_64) (by decide) (by decide) ?_
            refine XS.iload X38.here hx rfl (hb hby d3_10) rfl ?_
            refine XS.aloadN X38.here hx rfl (hb hby d3_12) rfl rfl ?_
            exact k
          obtain ⟨cl41, Ar41, qc41, Sz41, Nn41, Hs41, Gs41⟩ := id (Arv.other (Arv.other (A0.ext E4) W21 (Nat.ne_of_lt (Nat.lt_of_lt_of_le A0.lt (Nat.le_of_eq g4.symm)))) W38 (Nat.ne_of_lt (Nat.lt_of_lt_of_le A0.lt (Nat.le_of_eq g4.symm))))
          have a42 : ∀ t, Steps p.tables e below (T38.setTop (mkF m 20 #[.val (.ref ar_), .val (.int p1), .val (.ref b4), .val (.long (((0 : Int64) + k0_) + k1_)), .second, .val (.int (2 : Int32)), .val (.long k1_), .second] [(.int (2 : Int32)), (.ref ar_)])) t → Steps p.tables e below (s₁.setTop (entryFrame m #[(.ref ar_), (.int p1)] 8)) t := by
            intro t k
            refine a40 t ?_
            show Steps p.tables e below (T38.setTop (mkF m 13 #[.val (.ref ar_), .val (.int p1), .val (.ref b4), .val (.long (((0 : Int64) + k0_) + k1_)), .second, .val (.int (2 : Int32)), .val (.long k1_), .second] [(.ref ar_), (.int (2 : Int32))])) _
            refine X38.arraylength hx (by rw [e38]; exact Ar41.1) (State.isArrayOf_alike hZ.alike Ar41.2.1) (g := (mkF m 13 #[.val (.ref ar_), .val (.int p1), .val (.ref b4), .val (.long (((0 : Int64) + k0_) + k1_)), .second, .val (.int (2 : Int32)), .val (.long k1_), .second] [(.ref ar_), (.int (2 : Int32))])) rfl rfl (hb hby d3_13) _ ?_
            rw [len_of Sz41 Nn41]
            refine XS.icmpNo X38.here hx rfl (hb hby d3_14) rfl (tlt (by decide)).2.1 ?_
            refine XS.aloadN X38.here hx rfl (hb hby d3_17) rfl rfl ?_
            refine XS.iload X38.here hx rfl (hb hby d3_18) rfl ?_
            exact k
          obtain ⟨cl43, Ar43, qc43, Sz43, Nn43, Hs43, Gs43⟩ := id (Arv.other (Arv.other (A0.ext E4) W21 (Nat.ne_of_lt (Nat.lt_of_lt_of_le A0.lt (Nat.le_of_eq g4.symm)))) W38 (Nat.ne_of_lt (Nat.lt_of_lt_of_le A0.lt (Nat.le_of_eq g4.symm))))
          have hin43 : ¬ ((2 : Int32) < 0 ∨ cl43.slots.size ≤ ((2 : Int32)).toNatClampNeg) := inb_of Sz43 ⟨by decide, by decide⟩
          have hat43 := Hs43.at hin43 (v := (.double (FP.ddiv (FP.l2d a2_) (4652218415073722368 : UInt64)))) rfl
          have a44 : ∀ t, Steps p.tables e below (T38.setTop (mkF m 24 #[.val (.ref ar_), .val (.int p1), .val (.ref b4), .val (.long (((0 : Int64) + k0_) + k1_)), .second, .val (.int (2 : Int32)), .val (.long k1_), .second] [(.double (FP.dmul (FP.ddiv (FP.l2d a2_) (4652218415073722368 : UInt64)) (FP.i2d p1)))])) t → Steps p.tables e below (s₁.setTop (entryFrame m #[(.ref ar_), (.int p1)] 8)) t := by
            intro t k
            refine a42 t ?_
            show Steps p.tables e below (T38.setTop (mkF m 20 #[.val (.ref ar_), .val (.int p1), .val (.ref b4), .val (.long (((0 : Int64) + k0_) + k1_)), .second, .val (.int (2 : Int32)), .val (.long k1_), .second] [(.int (2 : Int32)), (.ref ar_)])) _
            refine X38.daload hx (j := (2 : Int32)) (v := (.double (FP.ddiv (FP.l2d a2_) (4652218415073722368 : UInt64)))) (by rw [e38]; exact Ar43.1) (State.isArrayOf_alike hZ.alike Ar43.2.1) Ar43.2.2 hin43 hat43 (g := (mkF m 20 #[.val (.ref ar_), .val (.int p1), .val (.ref b4), .val (.long (((0 : Int64) + k0_) + k1_)), .second, .val (.int (2 : Int32)), .val (.long k1_), .second] [(.int (2 : Int32)), (.ref ar_)])) rfl rfl (hb hby d3_20) _ ?_
            refine XS.iloadN X38.here hx rfl (hb hby d3_21) rfl ?_
            refine XS.i2dS X38.here hx rfl (hb hby d3_22) rfl rfl ?_
            refine XS.dmulS X38.here hx rfl (hb hby d3_23) rfl (nn64 (own_xd hk2.1 hdd).1) rfl ?_
            exact k
          obtain ⟨_, _, ⟨T45, L45, k45, n45⟩, -, X45, ⟨Lc45, hQ45, l45, y45, z45⟩, st45⟩ := Jvm.LawKit.callS X38 hx (y := (⟨"java/lang/Math", "round", "(D)J"⟩ : MethodName)) hown (mvT hZ (hw _ (List.mem_of_getElem? (i := 17) rfl))) (mvT hZ (hw _ (List.mem_of_getElem? (i := 18) rfl))) (mvT hZ (hw _ (List.mem_of_getElem? (i := 19) rfl))) (mvT hZ (hw _ (List.mem_of_getElem? (i := 20) rfl))) (by decide) (backOf (W := 0) (rmRound l Z a0 hw [] (FP.dmul (FP.ddiv (FP.l2d a2_) (4652218415073722368 : UInt64)) (FP.i2d p1)) (a2_.toInt * p1.toInt) k2_ h38 n0 (Nat.le_trans (Nat.le_trans (Nat.le_trans Z0 E4.1) (Keep.of_wr W21).1) (Keep.of_wr W38).1) (own_xd hk2.1 hdd) (by have := own_prod_bd hk2.1 hdd; omega) hk2.2) hZ (hw _ (List.mem_of_getElem? (i := 20) rfl)) (hw _ (List.mem_of_getElem? (i := 19) rfl)) (by decide) (by decide)) (g := (mkF m 24 #[.val (.ref ar_), .val (.int p1), .val (.ref b4), .val (.long (((0 : Int64) + k0_) + k1_)), .second, .val (.int (2 : Int32)), .val (.long k1_), .second] [(.double (FP.dmul (FP.ddiv (FP.l2d a2_) (4652218415073722368 : UInt64)) (FP.i2d p1)))])) rfl (by rw [hml]; rfl) (argsL := [(.double (FP.dmul (FP.ddiv (FP.l2d a2_) (4652218415073722368 : UInt64)) (FP.i2d p1)))]) (rest := []) (lenOf own_pd0 rfl) rfl (by show 2 * 0 + _ ≤ _; exact Nat.le_of_eq rfl) (hb hby d3_24) (fun _ _ => ⟨rfl, e38, (by decide : 1 + 0 ≤ _), (by decide : 3 + 0 ≤ _)⟩)
          dsimp only [Pt.U, Pt.locs, Pt.cells, Pt.slots] at X45 l45 y45 z45 st45 hQ45
          subst l45 y45 z45
          obtain ⟨rfl, N45q, e45q⟩ := hQ45
          have N45 := Fr.app N38 N45q
          have a46 : ∀ t, Steps p.tables e below (T45.setTop (mkF m 27 #[.val (.ref ar_), .val (.int p1), .val (.ref b4), .val (.long (((0 : Int64) + k0_) + k1_)), .second, .val (.int (2 : Int32)), .val (.long k1_), .second] [(.long k2_)])) t → Steps p.tables e below (s₁.setTop (entryFrame m #[(.ref ar_), (.int p1)] 8)) t := fun t k => a44 t (st45 t k)
          have a47 : ∀ t, Steps p.tables e below (T45.setTop (mkF m 33 #[.val (.ref ar_), .val (.int p1), .val (.ref b4), .val (.long (((0 : Int64) + k0_) + k1_)), .second, .val (.int (2 : Int32)), .val (.long k2_), .second] [(.int (lcmpW k2_ (0 : Int64)))])) t → Steps p.tables e below (s₁.setTop (entryFrame m #[(.ref ar_), (.int p1)] 8)) t := by
            intro t k
            refine a46 t ?_
            show Steps p.tables e below (T45.setTop (mkF m 27 #[.val (.ref ar_), .val (.int p1), .val (.ref b4), .val (.long (((0 : Int64) + k0_) + k1_)), .second, .val (.int (2 : Int32)), .val (.long k1_), .second] [(.long k2_)])) _
            refine XS.lstore X45.here hx rfl (hb hby d3_27) rfl (l' := #[.val (.ref ar_), .val (.int p1), .val (.ref b4), .val (.long (((0 : Int64) + k0_) + k1_)), .second, .val (.int (2 : Int32)), .val (.long k2_), .second]) rfl ?_
            refine XS.lload X45.here hx rfl (hb hby d3_29) rfl ?_
            refine XS.lconst X45.here hx rfl (hb hby d3_31) ?_
            refine XS.lcmp X45.here hx rfl (hb hby d3_32) rfl ?_
            exact k
          by_cases hc33_48 : k2_ < (0 : Int64)
          ·
            have a49 : ∀ t, Steps p.tables e below (T45.setTop (mkF m 45 #[.val (.ref ar_), .val (.int p1), .val (.ref b4), .val (.long (((0 : Int64) + k0_) + k1_)), .second, .val (.int (2 : Int32)), .val (.long k2_), .second] [.null])) t → Steps p.tables e below (s₁.setTop (entryFrame m #[(.ref ar_), (.int p1)] 8)) t := by
              intro t k
              refine a47 t ?_
              show Steps p.tables e below (T45.setTop (mkF m 33 #[.val (.ref ar_), .val (.int p1), .val (.ref b4), .val (.long (((0 : Int64) + k0_) + k1_)), .second, .val (.int (2 : Int32)), .val (.long k2_), .second] [(.int (lcmpW k2_ (0 : Int64)))])) _
              refine XS.ifYes X45.here hx rfl (pc0 := 33) (pc' := 44) rfl (hb hby d3_33) rfl ((if0 _ _).trans (tlt ((lw_lt k2_ (0 : Int64)).mpr hc33_48)).1) (by decide) (by decide) ?_
              refine XS.aconstNull X45.here hx rfl (hb hby d3_44) ?_
              exact k
            obtain ⟨fs, hr, hrun, hended, hW, hsame⟩ := X45.leave (v := some .null) (fun h => by rw [Bd.returns] at h; cases h)
            refine ⟨_, _, a49 _ ?_, hrun, hended, _, _, rfl, ?_, ⟨_, rfl⟩, hW, hsame.mono (by decide) (by decide)⟩
            · show Steps p.tables e below (T45.setTop (mkF m 45 #[.val (.ref ar_), .val (.int p1), .val (.ref b4), .val (.long (((0 : Int64) + k0_) + k1_)), .second, .val (.int (2 : Int32)), .val (.long k2_), .second] [.null])) _
              exact retOut X45 hx Bd.returns rfl (Or.inr (Or.inr (Or.inr (Or.inr ⟨rfl, rfl, rfl⟩)))) (hb hby d3_45) hr
            · show QN3 Z ar_ p1 kk a0_ k0_ a1_ k1_ a2_ k2_ h0 n0 _ T45.heap _
              rw [e45q]
              exact Or.inl ⟨rfl, fun q => own_not_ok (Or.inl hc33_48) q.2.2.1, N45, K38⟩
          ·
            have a50 : ∀ t, Steps p.tables e below (T45.setTop (mkF m 41 #[.val (.ref ar_), .val (.int p1), .val (.ref b4), .val (.long (((0 : Int64) + k0_) + k1_)), .second, .val (.int (2 : Int32)), .val (.long k2_), .second] [(.int (lcmpW k2_ (p1.toInt64)))])) t → Steps p.tables e below (s₁.setTop (entryFrame m #[(.ref ar_), (.int p1)] 8)) t := by
              intro t k
              refine a47 t ?_
              show Steps p.tables e below (T45.setTop (mkF m 33 #[.val (.ref ar_), .val (.int p1), .val (.ref b4), .val (.long (((0 : Int64) + k0_) + k1_)), .second, .val (.int (2 : Int32)), .val (.long k2_), .second] [(.int (lcmpW k2_ (0 : Int64)))])) _
              refine XS.ifNo X45.here hx rfl (hb hby d3_33) rfl ((if0 _ _).trans (flt (fun q => hc33_48 ((lw_lt k2_ (0 : Int64)).mp q))).1) ?_
              refine XS.lload X45.here hx rfl (hb hby d3_36) rfl ?_
              refine XS.iloadN X45.here hx rfl (hb hby d3_38) rfl ?_
              refine XS.i2l X45.here hx rfl (hb hby d3_39) rfl ?_
              refine XS.lcmp X45.here hx rfl (hb hby d3_40) rfl ?_
              exact k
            by_cases hc41_51 : (p1.toInt64) < k2_
            ·
              have a52 : ∀ t, Steps p.tables e below (T45.setTop (mkF m 45 #[.val (.ref ar_), .val (.int p1), .val (.ref b4), .val (.long (((0 : Int64) + k0_) + k1_)), .second, .val (.int (2 : Int32)), .val (.long k2_), .second] [.null])) t → Steps p.tables e below (s₁.setTop (entryFrame m #[(.ref ar_), (.int p1)] 8)) t := by
                intro t k
                refine a50 t ?_
                show Steps p.tables e below (T45.setTop (mkF m 41 #[.val (.ref ar_), .val (.int p1), .val (.ref b4), .val (.long (((0 : Int64) + k0_) + k1_)), .second, .val (.int (2 : Int32)), .val (.long k2_), .second] [(.int (lcmpW k2_ (p1.toInt64)))])) _
                refine XS.ifNo X45.here hx rfl (hb hby d3_41) rfl ((if0 _ _).trans (tlt ((lw_gt k2_ (p1.toInt64)).mpr hc41_51)).2.2.2) ?_
                refine XS.aconstNull X45.here hx rfl (hb hby d3_44) ?_
                exact k
              obtain ⟨fs, hr, hrun, hended, hW, hsame⟩ := X45.leave (v := some .null) (fun h => by rw [Bd.returns] at h; cases h)
              refine ⟨_, _, a52 _ ?_, hrun, hended, _, _, rfl, ?_, ⟨_, rfl⟩, hW, hsame.mono (by decide) (by decide)⟩
              · show Steps p.tables e below (T45.setTop (mkF m 45 #[.val (.ref ar_), .val (.int p1), .val (.ref b4), .val (.long (((0 : Int64) + k0_) + k1_)), .second, .val (.int (2 : Int32)), .val (.long k2_), .second] [.null])) _
                exact retOut X45 hx Bd.returns rfl (Or.inr (Or.inr (Or.inr (Or.inr ⟨rfl, rfl, rfl⟩)))) (hb hby d3_45) hr
              · show QN3 Z ar_ p1 kk a0_ k0_ a1_ k1_ a2_ k2_ h0 n0 _ T45.heap _
                rw [e45q]
                exact Or.inl ⟨rfl, fun q => own_not_ok (Or.inr hc41_51) q.2.2.1, N45, K38⟩
            ·
              have a53 : ∀ t, Steps p.tables e below (T45.setTop (mkF m 60 #[.val (.ref ar_), .val (.int p1), .val (.ref b4), .val (.long ((((0 : Int64) + k0_) + k1_) + k2_)), .second, .val (.int (2 : Int32)), .val (.long k2_), .second] [(.double (FP.ddiv (FP.l2d k2_) (FP.i2d p1))), (.int (2 : Int32)), (.ref b4)])) t → Steps p.tables e below (s₁.setTop (entryFrame m #[(.ref ar_), (.int p1)] 8)) t := by
                intro t k
                refine a50 t ?_
                show Steps p.tables e below (T45.setTop (mkF m 41 #[.val (.ref ar_), .val (.int p1), .val (.ref b4), .val (.long (((0 : Int64) + k0_) + k1_)), .second, .val (.int (2 : Int32)), .val (.long k2_), .second] [(.int (lcmpW k2_ (p1.toInt64)))])) _
                refine XS.ifYes X45.here hx rfl (pc0 := 41) (pc' := 46) rfl (hb hby d3_41) rfl ((if0 _ _).trans (flt (fun q => hc41_51 ((lw_gt k2_ (p1.toInt64)).mp q))).2.2.2) (by decide) (by decide) ?_
                refine XS.lloadN X45.here hx rfl (hb hby d3_46) rfl ?_
                refine XS.lload X45.here hx rfl (hb hby d3_47) rfl ?_
                refine XS.ladd X45.here hx rfl (hb hby d3_49) rfl ?_
                refine XS.lstoreN X45.here hx rfl (hb hby d3_50) rfl (l' := #[.val (.ref ar_), .val (.int p1), .val (.ref b4), .val (.long ((((0 : Int64) + k0_) + k1_) + k2_)), .second, .val (.int (2 : Int32)), .val (.long k2_), .second]) rfl ?_
                refine XS.aloadN X45.here hx rfl (hb hby d3_51) rfl rfl ?_
                refine XS.iload X45.here hx rfl (hb hby d3_52) rfl ?_
                refine XS.lload X45.here hx rfl (hb hby d3_54) rfl ?_
                refine XS.l2dS X45.here hx rfl (hb hby d3_56) rfl rfl ?_
                refine XS.iloadN X45.here hx rfl (hb hby d3_57) rfl ?_
                refine XS.i2dS X45.here hx rfl (hb hby d3_58) rfl rfl ?_
                refine XS.ddivS X45.here hx rfl (hb hby d3_59) rfl (own_kd hdd) rfl ?_
                exact k
              obtain ⟨cl54, Ar54, qc54, Sz54, Nn54, Hs54, Gs54⟩ := id V38
              have hin54 : ¬ ((2 : Int32) < 0 ∨ cl54.slots.size ≤ ((2 : Int32)).toNatClampNeg) := inb_of Sz54 ⟨by decide, by decide⟩
              obtain ⟨T55, h55, X55, e55, W55, st55⟩ := stD X45 hx hZ e45q Ar54 (j := (2 : Int32)) hin54 (g := (mkF m 60 #[.val (.ref ar_), .val (.int p1), .val (.ref b4), .val (.long ((((0 : Int64) + k0_) + k1_) + k2_)), .second, .val (.int (2 : Int32)), .val (.long k2_), .second] [(.double (FP.ddiv (FP.l2d k2_) (FP.i2d p1))), (.int (2 : Int32)), (.ref b4)])) rfl rfl (hb hby d3_60)
              have V55 : Arv Z h55 b4 kk4 .double (3 : Int32) [(.double (FP.ddiv (FP.l2d k0_) (FP.i2d p1))), (.double (FP.ddiv (FP.l2d k1_) (FP.i2d p1))), (.double (FP.ddiv (FP.l2d k2_) (FP.i2d p1)))] (.double (0 : UInt64)) := Arv.set Ar54 qc54 Sz54 Nn54 Hs54 Gs54 rfl W55 2 rfl (Nat.le_of_ble_eq_true rfl)
              have N55 := Fr.snoc X55 N45 g_b4
              have K55 : Keep h0 h55 [] := Keep.wr K38 W55 (Or.inr sz_b4)
              have a56 : ∀ t, Steps p.tables e below (T55.setTop (mkF m 61 #[.val (.ref ar_), .val (.int p1), .val (.ref b4), .val (.long ((((0 : Int64) + k0_) + k1_) + k2_)), .second, .val (.int (2 : Int32)), .val (.long k2_), .second] [])) t → Steps p.tables e below (s₁.setTop (entryFrame m #[(.ref ar_), (.int p1)] 8)) t := fun t k => a53 t (st55 t k)
              have a57 : ∀ t, Steps p.tables e below (T55.setTop (mkF m 13 #[.val (.ref ar_), .val (.int p1), .val (.ref b4), .val (.long ((((0 : Int64) + k0_) + k1_) + k2_)), .second, .val (.int (3 : Int32)), .val (.long k2_), .second] [(.ref ar_), (.int (3 : Int32))])) t → Steps p.tables e below (s₁.setTop (entryFrame m #[(.ref ar_), (.int p1)] 8)) t := by
                intro t k
                refine a56 t ?_
                show Steps p.tables e below (T55.setTop (mkF m 61 #[.val (.ref ar_), .val (.int p1), .val (.ref b4), .val (.long ((((0 : Int64) + k0_) + k1_) + k2_)), .second, .val (.int (2 : Int32)), .val (.long k2_), .second] [])) _
                refine XS.iinc X55.here hx rfl (hb hby d3_61) rfl (l' := #[.val (.ref ar_), .val (.int p1), .val (.ref b4), .val (.long ((((0 : Int64) + k0_) + k1_) + k2_)), .second, .val (.int (3 : Int32)), .val (.long k2_), .second]) rfl ?_
                refine XS.goto X55.here hx rfl (pc0 := 64) (pc' := 10) rfl (hb hby d3_64) (by decide) (by decide) ?_
                refine XS.iload X55.here hx rfl (hb hby d3_10) rfl ?_
                refine XS.aloadN X55.here hx rfl (hb hby d3_12) rfl rfl ?_
                exact k
              obtain ⟨cl58, Ar58, qc58, Sz58, Nn58, Hs58, Gs58⟩ := id (Arv.other (Arv.other (Arv.other (A0.ext E4) W21 (Nat.ne_of_lt (Nat.lt_of_lt_of_le A0.lt (Nat.le_of_eq g4.symm)))) W38 (Nat.ne_of_lt (Nat.lt_of_lt_of_le A0.lt (Nat.le_of_eq g4.symm)))) W55 (Nat.ne_of_lt (Nat.lt_of_lt_of_le A0.lt (Nat.le_of_eq g4.symm))))
              have a59 : ∀ t, Steps p.tables e below (T55.setTop (mkF m 71 #[.val (.ref ar_), .val (.int p1), .val (.ref b4), .val (.long ((((0 : Int64) + k0_) + k1_) + k2_)), .second, .val (.int (3 : Int32)), .val (.long k2_), .second] [(.int (lcmpW ((((0 : Int64) + k0_) + k1_) + k2_) (p1.toInt64)))])) t → Steps p.tables e below (s₁.setTop (entryFrame m #[(.ref ar_), (.int p1)] 8)) t := by
                intro t k
                refine a57 t ?_
                show Steps p.tables e below (T55.setTop (mkF m 13 #[.val (.ref ar_), .val (.int p1), .val (.ref b4), .val (.long ((((0 : Int64) + k0_) + k1_) + k2_)), .second, .val (.int (3 : Int32)), .val (.long k2_), .second] [(.ref ar_), (.int (3 : Int32))])) _
                refine X55.arraylength hx (by rw [e55]; exact Ar58.1) (State.isArrayOf_alike hZ.alike Ar58.2.1) (g := (mkF m 13 #[.val (.ref ar_), .val (.int p1), .val (.ref b4), .val (.long ((((0 : Int64) + k0_) + k1_) + k2_)), .second, .val (.int (3 : Int32)), .val (.long k2_), .second] [(.ref ar_), (.int (3 : Int32))])) rfl rfl (hb hby d3_13) _ ?_
                rw [len_of Sz58 Nn58]
                refine XS.icmpYes X55.here hx rfl (pc0 := 14) (pc' := 67) rfl (hb hby d3_14) rfl (flt (by decide)).2.1 (by decide) (by decide) ?_
                refine XS.lloadN X55.here hx rfl (hb hby d3_67) rfl ?_
                refine XS.iloadN X55.here hx rfl (hb hby d3_68) rfl ?_
                refine XS.i2l X55.here hx rfl (hb hby d3_69) rfl ?_
                refine XS.lcmp X55.here hx rfl (hb hby d3_70) rfl ?_
                exact k
              by_cases hc71_60 : ((((0 : Int64) + k0_) + k1_) + k2_) = (p1.toInt64)
              ·
                have a61 : ∀ t, Steps p.tables e below (T55.setTop (mkF m 79 #[.val (.ref ar_), .val (.int p1), .val (.ref b4), .val (.long ((((0 : Int64) + k0_) + k1_) + k2_)), .second, .val (.int (3 : Int32)), .val (.long k2_), .second] [(.ref b4)])) t → Steps p.tables e below (s₁.setTop (entryFrame m #[(.ref ar_), (.int p1)] 8)) t := by
                  intro t k
                  refine a59 t ?_
                  show Steps p.tables e below (T55.setTop (mkF m 71 #[.val (.ref ar_), .val (.int p1), .val (.ref b4), .val (.long ((((0 : Int64) + k0_) + k1_) + k2_)), .second, .val (.int (3 : Int32)), .val (.long k2_), .second] [(.int (lcmpW ((((0 : Int64) + k0_) + k1_) + k2_) (p1.toInt64)))])) _
                  refine XS.ifNo X55.here hx rfl (hb hby d3_71) rfl ((if0 _ _).trans (teq ((lw_eq ((((0 : Int64) + k0_) + k1_) + k2_) (p1.toInt64)).mpr hc71_60)).2) ?_
                  refine XS.aloadN X55.here hx rfl (hb hby d3_74) rfl rfl ?_
                  refine XS.goto X55.here hx rfl (pc0 := 75) (pc' := 79) rfl (hb hby d3_75) (by decide) (by decide) ?_
                  exact k
                obtain ⟨fs, hr, hrun, hended, hW, hsame⟩ := X55.leave (v := some (.ref b4)) (fun h => by rw [Bd.returns] at h; cases h)
                refine ⟨_, _, a61 _ ?_, hrun, hended, _, _, rfl, ?_, ⟨_, rfl⟩, hW, hsame.mono (by decide) (by decide)⟩
                · show Steps p.tables e below (T55.setTop (mkF m 79 #[.val (.ref ar_), .val (.int p1), .val (.ref b4), .val (.long ((((0 : Int64) + k0_) + k1_) + k2_)), .second, .val (.int (3 : Int32)), .val (.long k2_), .second] [(.ref b4)])) _
                  exact retOut X55 hx Bd.returns rfl (Or.inr (Or.inr (Or.inr (Or.inr ⟨rfl, rfl, rfl⟩)))) (hb hby d3_79) hr
                · show QN3 Z ar_ p1 kk a0_ k0_ a1_ k1_ a2_ k2_ h0 n0 _ T55.heap _
                  rw [e55]
                  refine Or.inr ⟨_, _, rfl, ?_, N55, K55, V55⟩
                  have o0 := own_is_ok hc33_14 hc41_17
                  have o1 := own_is_ok hc33_31 hc41_34
                  have o2 := own_is_ok hc33_48 hc41_51
                  have hc := hc71_60
                  rw [← Int64.toInt_inj, c_i2l] at hc
                  have e : (((((0 : Int64) + k0_) + k1_) + k2_) : Int64).toInt = k0_.toInt + k1_.toInt + k2_.toInt := by
                    unfold OwnOk OwnD at *; have e0 := own_z64; have s0 := c_ladd (0 : Int64) k0_; have r0 := rng64 ((0 : Int64) + k0_); have s1 := c_ladd ((0 : Int64) + k0_) k1_; have r1 := rng64 (((0 : Int64) + k0_) + k1_); have s2 := c_ladd (((0 : Int64) + k0_) + k1_) k2_; have r2 := rng64 ((((0 : Int64) + k0_) + k1_) + k2_); omega
                  rw [e] at hc
                  exact ⟨o0, o1, o2, hc⟩
              ·
                have a62 : ∀ t, Steps p.tables e below (T55.setTop (mkF m 79 #[.val (.ref ar_), .val (.int p1), .val (.ref b4), .val (.long ((((0 : Int64) + k0_) + k1_) + k2_)), .second, .val (.int (3 : Int32)), .val (.long k2_), .second] [.null])) t → Steps p.tables e below (s₁.setTop (entryFrame m #[(.ref ar_), (.int p1)] 8)) t := by
                  intro t k
                  refine a59 t ?_
                  show Steps p.tables e below (T55.setTop (mkF m 71 #[.val (.ref ar_), .val (.int p1), .val (.ref b4), .val (.long ((((0 : Int64) + k0_) + k1_) + k2_)), .second, .val (.int (3 : Int32)), .val (.long k2_), .second] [(.int (lcmpW ((((0 : Int64) + k0_) + k1_) + k2_) (p1.toInt64)))])) _
                  refine XS.ifYes X55.here hx rfl (pc0 := 71) (pc' := 78) rfl (hb hby d3_71) rfl ((if0 _ _).trans (feq (fun q => hc71_60 ((lw_eq ((((0 : Int64) + k0_) + k1_) + k2_) (p1.toInt64)).mp q))).2) (by decide) (by decide) ?_
                  refine XS.aconstNull X55.here hx rfl (hb hby d3_78) ?_
                  exact k
                obtain ⟨fs, hr, hrun, hended, hW, hsame⟩ := X55.leave (v := some .null) (fun h => by rw [Bd.returns] at h; cases h)
                refine ⟨_, _, a62 _ ?_, hrun, hended, _, _, rfl, ?_, ⟨_, rfl⟩, hW, hsame.mono (by decide) (by decide)⟩
                · show Steps p.tables e below (T55.setTop (mkF m 79 #[.val (.ref ar_), .val (.int p1), .val (.ref b4), .val (.long ((((0 : Int64) + k0_) + k1_) + k2_)), .second, .val (.int (3 : Int32)), .val (.long k2_), .second] [.null])) _
                  exact retOut X55 hx Bd.returns rfl (Or.inr (Or.inr (Or.inr (Or.inr ⟨rfl, rfl, rfl⟩)))) (hb hby d3_79) hr
                · show QN3 Z ar_ p1 kk a0_ k0_ a1_ k1_ a2_ k2_ h0 n0 _ T55.heap _
                  rw [e55]
                  refine Or.inl ⟨rfl, ?_, N55, K55⟩
                  unfold OwnG3
                  have o0 := own_is_ok hc33_14 hc41_17
                  have o1 := own_is_ok hc33_31 hc41_34
                  have o2 := own_is_ok hc33_48 hc41_51
                  have hc := hc71_60
                  rw [← Int64.toInt_inj, c_i2l] at hc
                  have e : (((((0 : Int64) + k0_) + k1_) + k2_) : Int64).toInt = k0_.toInt + k1_.toInt + k2_.toInt := by
                    unfold OwnOk OwnD at *; have e0 := own_z64; have s0 := c_ladd (0 : Int64) k0_; have r0 := rng64 ((0 : Int64) + k0_); have s1 := c_ladd ((0 : Int64) + k0_) k1_; have r1 := rng64 (((0 : Int64) + k0_) + k1_); have s2 := c_ladd (((0 : Int64) + k0_) + k1_) k2_; have r2 := rng64 ((((0 : Int64) + k0_) + k1_) + k2_); omega
                  rw [e] at hc
                  intro q
                  exact hc q.2.2.2
def Q0 (Z : State) (p0 : Int32) (p1 : Int32) (p2 : Int32) (p3 : Int32) (p4 : Int32) (h0 : Heap) (n0 : Nat) (v : Option Value) (h : Heap) (L : List Loc) : Prop := v = some (.int 1) ∧ Fr n0 L
theorem ef_rm0 (m : MethodId) (x0 : Int32) (x1 : Int32) (x2 : Int32) (x3 : Int32) (x4 : Int32) : entryFrame m #[(.int x0), (.int x1), (.int x2), (.int x3), (.int x4)] maxLocals = mkF m 0 #[.val (.int x0), .val (.int x1), .val (.int x2), .val (.int x3), .val (.int x4), .unset, .unset, .unset, .unset, .unset, .unset, .unset, .unset, .unset, .unset, .unset, .unset, .unset, .unset, .unset, .unset, .unset, .unset, .unset, .unset, .unset, .unset, .unset, .unset, .unset, .unset, .unset, .unset] [] := by first | (simp [entryFrame, mkF, argsToLocals, Value.category, maxLocals]; done) | rfl
theorem own_pd1 : parseMethodDescriptor "(IZ)J" = some ⟨[.int, .boolean], some .long⟩ := by decide +kernel
theorem own_pd2 : parseMethodDescriptor "(J)J" = some ⟨[.long], some .long⟩ := by decide +kernel
theorem own_pd3 : parseMethodDescriptor "([DI)[D" = some ⟨[(.array .double), .int], some (.array .double)⟩ := by decide +kernel
set_option maxRecDepth 65536 in
set_option maxHeartbeats 40000000 in
theorem tl0 (l : Launch) (Z : State) (a0 : Array Value) (hw : ∀ d ∈ tables_1, d.before a0 Z = true) (ws : List Jvm.Cond) (p0 : Int32) (p1 : Int32) (p2 : Int32) (p3 : Int32) (p4 : Int32) (h0 : Heap) (n0 : Nat) (Z0 : n0 ≤ h0.size) (cs wd sd dd : Int32) (a0v a1v a2v k0v k1v k2v : Int64) {p : Program} {e : Env} {s : State} {m : MethodId} {below : List Frame} {meth : Method} {c : Code} {sB : State} (Bd : BodyLoose p l x (head1 (Jvm.Cond.code x code maxLocals ret :: ws) room_1) code maxLocals ret e s m #[(.int p0), (.int p1), (.int p2), (.int p3), (.int p4)] below meth c sB) (hml : c.maxLocals = 33) (hZ : Z.Warmed39 s.vm) (s₁ : State) (Lc : List Loc) (X0 : Stand p l e room_1 s m #[(.int p0), (.int p1), (.int p2), (.int p3), (.int p4)] below meth c s₁ Lc 0 0) (e0 : s₁.heap = h0) (N0 : Fr n0 Lc) (hdd : OwnD dd) (B_a0v : -2147483648 ≤ a0v.toInt ∧ a0v.toInt ≤ 2147483648) (B_a1v : -2147483648 ≤ a1v.toInt ∧ a1v.toInt ≤ 2147483648) (B_a2v : -2147483648 ≤ a2v.toInt ∧ a2v.toInt ≤ 2147483648) (J_k0v : OwnK a0v dd k0v) (J_k1v : OwnK a1v dd k1v) (J_k2v : OwnK a2v dd k2v) :
    ∃ s₂ o, Steps p.tables e below (s₁.setTop (mkF m 130 #[.val (.int p0), .val (.int p1), .val (.int p2), .val (.int p3), .val (.int p4), .val (.int cs), .val (.int wd), .val (.int sd), .val (.int (0 : Int32)), .val (.int dd), .val (.long a0v), .second, .val (.long a1v), .second, .val (.long a2v), .second, .val (.long k0v), .second, .val (.long k1v), .second, .val (.long k2v), .second, .unset, .unset, .unset, .unset, .unset, .unset, .unset, .unset, .unset, .unset, .unset] [])) s₂ ∧ s₂.status = .running ∧ Ended s₂ below o ∧ ∃ v L, o = .returned v ∧ Q0 Z p0 p1 p2 p3 p4 h0 n0 v s₂.heap L ∧ FrameEnd s o s₂ L room_1.cells room_1.slots := by
  have hx := Bd.exec
  have hby := Bd.bytes
  have hown : s.vm.findClass "com/example/tillerfront/tillerfront/engine/ReferencePointsNearestPinLaw" = some m.cls := findClass_of_methodNamed Bd.named
  have hnm := (name_of_methodNamed Bd.named Bd.method).1
  have pre0 : ∀ t, Steps p.tables e below (s₁.setTop (mkF m 130 #[.val (.int p0), .val (.int p1), .val (.int p2), .val (.int p3), .val (.int p4), .val (.int cs), .val (.int wd), .val (.int sd), .val (.int (0 : Int32)), .val (.int dd), .val (.long a0v), .second, .val (.long a1v), .second, .val (.long a2v), .second, .val (.long k0v), .second, .val (.long k1v), .second, .val (.long k2v), .second, .unset, .unset, .unset, .unset, .unset, .unset, .unset, .unset, .unset, .unset, .unset] [])) t → Steps p.tables e below (s₁.setTop (mkF m 130 #[.val (.int p0), .val (.int p1), .val (.int p2), .val (.int p3), .val (.int p4), .val (.int cs), .val (.int wd), .val (.int sd), .val (.int (0 : Int32)), .val (.int dd), .val (.long a0v), .second, .val (.long a1v), .second, .val (.long a2v), .second, .val (.long k0v), .second, .val (.long k1v), .second, .val (.long k2v), .second, .unset, .unset, .unset, .unset, .unset, .unset, .unset, .unset, .unset, .unset, .unset] [])) t := fun t k => k
  have a1 : ∀ t, Steps p.tables e below (s₁.setTop (mkF m 132 #[.val (.int p0), .val (.int p1), .val (.int p2), .val (.int p3), .val (.int p4), .val (.int cs), .val (.int wd), .val (.int sd), .val (.int (0 : Int32)), .val (.int dd), .val (.long a0v), .second, .val (.long a1v), .second, .val (.long a2v), .second, .val (.long k0v), .second, .val (.long k1v), .second, .val (.long k2v), .second, .unset, .unset, .unset, .unset, .unset, .unset, .unset, .unset, .unset, .unset, .unset] [(.int cs)])) t → Steps p.tables e below (s₁.setTop (mkF m 130 #[.val (.int p0), .val (.int p1), .val (.int p2), .val (.int p3), .val (.int p4), .val (.int cs), .val (.int wd), .val (.int sd), .val (.int (0 : Int32)), .val (.int dd), .val (.long a0v), .second, .val (.long a1v), .second, .val (.long a2v), .second, .val (.long k0v), .second, .val (.long k1v), .second, .val (.long k2v), .second, .unset, .unset, .unset, .unset, .unset, .unset, .unset, .unset, .unset, .unset, .unset] [])) t := by
    intro t k
    refine pre0 t ?_
    show Steps p.tables e below (s₁.setTop (mkF m 130 #[.val (.int p0), .val (.int p1), .val (.int p2), .val (.int p3), .val (.int p4), .val (.int cs), .val (.int wd), .val (.int sd), .val (.int (0 : Int32)), .val (.int dd), .val (.long a0v), .second, .val (.long a1v), .second, .val (.long a2v), .second, .val (.long k0v), .second, .val (.long k1v), .second, .val (.long k2v), .second, .unset, .unset, .unset, .unset, .unset, .unset, .unset, .unset, .unset, .unset, .unset] [])) _
    refine XS.iload X0.here hx rfl (hb hby at_130) rfl ?_
    exact k
  obtain ⟨J5, a5⟩ : (True) ∧ ∀ t, Steps p.tables e below (s₁.setTop (mkF m 273 #[.val (.int p0), .val (.int p1), .val (.int p2), .val (.int p3), .val (.int p4), .val (.int cs), .val (.int wd), .val (.int sd), .val (.int (0 : Int32)), .val (.int dd), .val (.long a0v), .second, .val (.long a1v), .second, .val (.long a2v), .second, .val (.long k0v), .second, .val (.long k1v), .second, .val (.long k2v), .second, .unset, .unset, .unset, .unset, .unset, .unset, .unset, .unset, .unset, .unset, .unset] [])) t → Steps p.tables e below (s₁.setTop (mkF m 130 #[.val (.int p0), .val (.int p1), .val (.int p2), .val (.int p3), .val (.int p4), .val (.int cs), .val (.int wd), .val (.int sd), .val (.int (0 : Int32)), .val (.int dd), .val (.long a0v), .second, .val (.long a1v), .second, .val (.long a2v), .second, .val (.long k0v), .second, .val (.long k1v), .second, .val (.long k2v), .second, .unset, .unset, .unset, .unset, .unset, .unset, .unset, .unset, .unset, .unset, .unset] [])) t := by
    by_cases hc132_2 : cs = (0 : Int32)
    ·
      have a3 : ∀ t, Steps p.tables e below (s₁.setTop (mkF m 273 #[.val (.int p0), .val (.int p1), .val (.int p2), .val (.int p3), .val (.int p4), .val (.int cs), .val (.int wd), .val (.int sd), .val (.int (0 : Int32)), .val (.int dd), .val (.long a0v), .second, .val (.long a1v), .second, .val (.long a2v), .second, .val (.long k0v), .second, .val (.long k1v), .second, .val (.long k2v), .second, .unset, .unset, .unset, .unset, .unset, .unset, .unset, .unset, .unset, .unset, .unset] [])) t → Steps p.tables e below (s₁.setTop (mkF m 130 #[.val (.int p0), .val (.int p1), .val (.int p2), .val (.int p3), .val (.int p4), .val (.int cs), .val (.int wd), .val (.int sd), .val (.int (0 : Int32)), .val (.int dd), .val (.long a0v), .second, .val (.long a1v), .second, .val (.long a2v), .second, .val (.long k0v), .second, .val (.long k1v), .second, .val (.long k2v), .second, .unset, .unset, .unset, .unset, .unset, .unset, .unset, .unset, .unset, .unset, .unset] [])) t := by
        intro t k
        refine a1 t ?_
        show Steps p.tables e below (s₁.setTop (mkF m 132 #[.val (.int p0), .val (.int p1), .val (.int p2), .val (.int p3), .val (.int p4), .val (.int cs), .val (.int wd), .val (.int sd), .val (.int (0 : Int32)), .val (.int dd), .val (.long a0v), .second, .val (.long a1v), .second, .val (.long a2v), .second, .val (.long k0v), .second, .val (.long k1v), .second, .val (.long k2v), .second, .unset, .unset, .unset, .unset, .unset, .unset, .unset, .unset, .unset, .unset, .unset] [(.int cs)])) _
        refine XS.ifYes X0.here hx rfl (pc0 := 132) (pc' := 273) rfl (hb hby at_132) rfl ((if0 _ _).trans (teq hc132_2).1) (by decide) (by decide) ?_
        exact k
      exact ⟨trivial, a3⟩
    ·
      have a4 : ∀ t, Steps p.tables e below (s₁.setTop (mkF m 273 #[.val (.int p0), .val (.int p1), .val (.int p2), .val (.int p3), .val (.int p4), .val (.int cs), .val (.int wd), .val (.int sd), .val (.int (0 : Int32)), .val (.int dd), .val (.long a0v), .second, .val (.long a1v), .second, .val (.long a2v), .second, .val (.long k0v), .second, .val (.long k1v), .second, .val (.long k2v), .second, .unset, .unset, .unset, .unset, .unset, .unset, .unset, .unset, .unset, .unset, .unset] [])) t → Steps p.tables e below (s₁.setTop (mkF m 130 #[.val (.int p0), .val (.int p1), .val (.int p2), .val (.int p3), .val (.int p4), .val (.int cs), .val (.int wd), .val (.int sd), .val (.int (0 : Int32)), .val (.int dd), .val (.long a0v), .second, .val (.long a1v), .second, .val (.long a2v), .second, .val (.long k0v), .second, .val (.long k1v), .second, .val (.long k2v), .second, .unset, .unset, .unset, .unset, .unset, .unset, .unset, .unset, .unset, .unset, .unset] [])) t := by
        intro t k
        refine a1 t ?_
        show Steps p.tables e below (s₁.setTop (mkF m 132 #[.val (.int p0), .val (.int p1), .val (.int p2), .val (.int p3), .val (.int p4), .val (.int cs), .val (.int wd), .val (.int sd), .val (.int (0 : Int32)), .val (.int dd), .val (.long a0v), .second, .val (.long a1v), .second, .val (.long a2v), .second, .val (.long k0v), .second, .val (.long k1v), .second, .val (.long k2v), .second, .unset, .unset, .unset, .unset, .unset, .unset, .unset, .unset, .unset, .unset, .unset] [(.int cs)])) _
        refine XS.ifNo X0.here hx rfl (hb hby at_132) rfl ((if0 _ _).trans (feq hc132_2).1) ?_
        refine XS.iload X0.here hx rfl (hb hby at_135) rfl ?_
        refine XS.iconst X0.here hx rfl (hb hby at_137) ?_
        refine XS.icmpYes X0.here hx rfl (pc0 := 138) (pc' := 273) rfl (hb hby at_138) rfl (tlt (by decide)).1 (by decide) (by decide) ?_
        exact k
      exact ⟨trivial, a4⟩
  have a6 : ∀ t, Steps p.tables e below (s₁.setTop (mkF m 275 #[.val (.int p0), .val (.int p1), .val (.int p2), .val (.int p3), .val (.int p4), .val (.int cs), .val (.int wd), .val (.int sd), .val (.int (0 : Int32)), .val (.int dd), .val (.long a0v), .second, .val (.long a1v), .second, .val (.long a2v), .second, .val (.long k0v), .second, .val (.long k1v), .second, .val (.long k2v), .second, .unset, .unset, .unset, .unset, .unset, .unset, .unset, .unset, .unset, .unset, .unset] [(.int (0 : Int32))])) t → Steps p.tables e below (s₁.setTop (mkF m 130 #[.val (.int p0), .val (.int p1), .val (.int p2), .val (.int p3), .val (.int p4), .val (.int cs), .val (.int wd), .val (.int sd), .val (.int (0 : Int32)), .val (.int dd), .val (.long a0v), .second, .val (.long a1v), .second, .val (.long a2v), .second, .val (.long k0v), .second, .val (.long k1v), .second, .val (.long k2v), .second, .unset, .unset, .unset, .unset, .unset, .unset, .unset, .unset, .unset, .unset, .unset] [])) t := by
    intro t k
    refine a5 t ?_
    show Steps p.tables e below (s₁.setTop (mkF m 273 #[.val (.int p0), .val (.int p1), .val (.int p2), .val (.int p3), .val (.int p4), .val (.int cs), .val (.int wd), .val (.int sd), .val (.int (0 : Int32)), .val (.int dd), .val (.long a0v), .second, .val (.long a1v), .second, .val (.long a2v), .second, .val (.long k0v), .second, .val (.long k1v), .second, .val (.long k2v), .second, .unset, .unset, .unset, .unset, .unset, .unset, .unset, .unset, .unset, .unset, .unset] [])) _
    refine XS.iload X0.here hx rfl (hb hby at_273) rfl ?_
    exact k
  obtain ⟨T7, h7, kk7, X7, e7, E7, A7, st7⟩ := newP X0 hx hZ (hw _ (List.mem_of_getElem? (i := 11) rfl)) e0 (g := (mkF m 275 #[.val (.int p0), .val (.int p1), .val (.int p2), .val (.int p3), .val (.int p4), .val (.int cs), .val (.int wd), .val (.int sd), .val (.int (0 : Int32)), .val (.int dd), .val (.long a0v), .second, .val (.long a1v), .second, .val (.long a2v), .second, .val (.long k0v), .second, .val (.long k1v), .second, .val (.long k2v), .second, .unset, .unset, .unset, .unset, .unset, .unset, .unset, .unset, .unset, .unset, .unset] [(.int (0 : Int32))])) rfl (hb hby at_275) rfl (by decide) (cap := 0) (by decide) (by decide) (by decide) (by decide)
  obtain ⟨b7, g7⟩ : ∃ z, z = h0.size := ⟨_, rfl⟩
  rw [← g7] at A7 st7
  have g_b7 : n0 ≤ b7 := Nat.le_trans Z0 (Nat.le_of_eq g7.symm)
  have sz_b7 : h0.size ≤ b7 := Nat.le_trans ((Keep.refl h0 [])).1 (Nat.le_of_eq g7.symm)
  have V_b7 : Arv Z h7 b7 kk7 .double (0 : Int32) [] (.double (0 : UInt64)) := (Arv.new A7 (by decide))
  have K7 : Keep h0 h7 [] := Keep.ext (Keep.refl h0 []) E7
  have a8 : ∀ t, Steps p.tables e below (T7.setTop (mkF m 277 #[.val (.int p0), .val (.int p1), .val (.int p2), .val (.int p3), .val (.int p4), .val (.int cs), .val (.int wd), .val (.int sd), .val (.int (0 : Int32)), .val (.int dd), .val (.long a0v), .second, .val (.long a1v), .second, .val (.long a2v), .second, .val (.long k0v), .second, .val (.long k1v), .second, .val (.long k2v), .second, .unset, .unset, .unset, .unset, .unset, .unset, .unset, .unset, .unset, .unset, .unset] [(.ref b7)])) t → Steps p.tables e below (s₁.setTop (mkF m 130 #[.val (.int p0), .val (.int p1), .val (.int p2), .val (.int p3), .val (.int p4), .val (.int cs), .val (.int wd), .val (.int sd), .val (.int (0 : Int32)), .val (.int dd), .val (.long a0v), .second, .val (.long a1v), .second, .val (.long a2v), .second, .val (.long k0v), .second, .val (.long k1v), .second, .val (.long k2v), .second, .unset, .unset, .unset, .unset, .unset, .unset, .unset, .unset, .unset, .unset, .unset] [])) t := fun t k => a6 t (st7 t k)
  have a9 : ∀ t, Steps p.tables e below (T7.setTop (mkF m 334 #[.val (.int p0), .val (.int p1), .val (.int p2), .val (.int p3), .val (.int p4), .val (.int cs), .val (.int wd), .val (.int sd), .val (.int (0 : Int32)), .val (.int dd), .val (.long a0v), .second, .val (.long a1v), .second, .val (.long a2v), .second, .val (.long k0v), .second, .val (.long k1v), .second, .val (.long k2v), .second, .val (.ref b7), .unset, .unset, .unset, .unset, .unset, .unset, .unset, .unset, .unset, .unset] [(.int dd), (.ref b7)])) t → Steps p.tables e below (s₁.setTop (mkF m 130 #[.val (.int p0), .val (.int p1), .val (.int p2), .val (.int p3), .val (.int p4), .val (.int cs), .val (.int wd), .val (.int sd), .val (.int (0 : Int32)), .val (.int dd), .val (.long a0v), .second, .val (.long a1v), .second, .val (.long a2v), .second, .val (.long k0v), .second, .val (.long k1v), .second, .val (.long k2v), .second, .unset, .unset, .unset, .unset, .unset, .unset, .unset, .unset, .unset, .unset, .unset] [])) t := by
    intro t k
    refine a8 t ?_
    show Steps p.tables e below (T7.setTop (mkF m 277 #[.val (.int p0), .val (.int p1), .val (.int p2), .val (.int p3), .val (.int p4), .val (.int cs), .val (.int wd), .val (.int sd), .val (.int (0 : Int32)), .val (.int dd), .val (.long a0v), .second, .val (.long a1v), .second, .val (.long a2v), .second, .val (.long k0v), .second, .val (.long k1v), .second, .val (.long k2v), .second, .unset, .unset, .unset, .unset, .unset, .unset, .unset, .unset, .unset, .unset, .unset] [(.ref b7)])) _
    refine XS.astore X7.here hx rfl (hb hby at_277) rfl rfl (l' := #[.val (.int p0), .val (.int p1), .val (.int p2), .val (.int p3), .val (.int p4), .val (.int cs), .val (.int wd), .val (.int sd), .val (.int (0 : Int32)), .val (.int dd), .val (.long a0v), .second, .val (.long a1v), .second, .val (.long a2v), .second, .val (.long k0v), .second, .val (.long k1v), .second, .val (.long k2v), .second, .val (.ref b7), .unset, .unset, .unset, .unset, .unset, .unset, .unset, .unset, .unset, .unset]) rfl ?_
    refine XS.iload X7.here hx rfl (hb hby at_279) rfl ?_
    refine XS.iconst X7.here hx rfl (hb hby at_281) ?_
    refine XS.icmpYes X7.here hx rfl (pc0 := 282) (pc' := 296) rfl (hb hby at_282) rfl (tlt (by decide)).1 (by decide) (by decide) ?_
    refine XS.iload X7.here hx rfl (hb hby at_296) rfl ?_
    refine XS.iconst X7.here hx rfl (hb hby at_298) ?_
    refine XS.icmpYes X7.here hx rfl (pc0 := 299) (pc' := 313) rfl (hb hby at_299) rfl (tlt (by decide)).1 (by decide) (by decide) ?_
    refine XS.iload X7.here hx rfl (hb hby at_313) rfl ?_
    refine XS.iconst X7.here hx rfl (hb hby at_315) ?_
    refine XS.icmpYes X7.here hx rfl (pc0 := 316) (pc' := 330) rfl (hb hby at_316) rfl (tlt (by decide)).1 (by decide) (by decide) ?_
    refine XS.aload X7.here hx rfl (hb hby at_330) rfl rfl ?_
    refine XS.iload X7.here hx rfl (hb hby at_332) rfl ?_
    exact k
  obtain ⟨_, _, ⟨T10, L10, k10, n10⟩, -, X10, ⟨Lc10, hQ10, l10, y10, z10⟩, st10⟩ := Jvm.LawKit.callS X7 hx (y := (⟨"com/example/tillerfront/tillerfront/engine/ReferencePoints", "nearest", "([DI)[D"⟩ : MethodName)) hown (mvT hZ (hw _ (List.mem_of_getElem? (i := 12) rfl))) (mvT hZ (hw _ (List.mem_of_getElem? (i := 13) rfl))) (mvT hZ (hw _ (List.mem_of_getElem? (i := 14) rfl))) (mvT hZ (hw _ (List.mem_of_getElem? (i := 15) rfl))) (by decide) (backOf (W := 0) (rmN0 l Z a0 hw [] b7 dd kk7 h7 n0 (Nat.le_trans Z0 E7.1) V_b7 hdd ) hZ (hw _ (List.mem_of_getElem? (i := 15) rfl)) (hw _ (List.mem_of_getElem? (i := 14) rfl)) (by decide) (by decide)) (g := (mkF m 334 #[.val (.int p0), .val (.int p1), .val (.int p2), .val (.int p3), .val (.int p4), .val (.int cs), .val (.int wd), .val (.int sd), .val (.int (0 : Int32)), .val (.int dd), .val (.long a0v), .second, .val (.long a1v), .second, .val (.long a2v), .second, .val (.long k0v), .second, .val (.long k1v), .second, .val (.long k2v), .second, .val (.ref b7), .unset, .unset, .unset, .unset, .unset, .unset, .unset, .unset, .unset, .unset] [(.int dd), (.ref b7)])) rfl (by rw [hml]; rfl) (argsL := [(.ref b7), (.int dd)]) (rest := []) (lenOf own_pd3 rfl) rfl (by show 2 * 0 + _ ≤ _; exact Nat.le_of_eq rfl) (hb hby at_334) (fun _ _ => ⟨rfl, e7, (by decide : 1 + 1 ≤ _), (by decide : 0 + 3 ≤ _)⟩)
  dsimp only [Pt.U, Pt.locs, Pt.cells, Pt.slots] at X10 l10 y10 z10 st10 hQ10
  subst l10 y10 z10
  rcases hQ10 with ⟨rfl, G10, N10q, K10q⟩ | ⟨rb10, kb10, rfl, G10, N10q, K10q, AR10⟩
  ·
    have N10 := Fr.app N0 N10q
    have KK10 : Keep h0 T10.heap [] := Keep.trans K7 K10q all0
    have a11 : ∀ t, Steps p.tables e below (T10.setTop (mkF m 337 #[.val (.int p0), .val (.int p1), .val (.int p2), .val (.int p3), .val (.int p4), .val (.int cs), .val (.int wd), .val (.int sd), .val (.int (0 : Int32)), .val (.int dd), .val (.long a0v), .second, .val (.long a1v), .second, .val (.long a2v), .second, .val (.long k0v), .second, .val (.long k1v), .second, .val (.long k2v), .second, .val (.ref b7), .unset, .unset, .unset, .unset, .unset, .unset, .unset, .unset, .unset, .unset] [.null])) t → Steps p.tables e below (s₁.setTop (mkF m 130 #[.val (.int p0), .val (.int p1), .val (.int p2), .val (.int p3), .val (.int p4), .val (.int cs), .val (.int wd), .val (.int sd), .val (.int (0 : Int32)), .val (.int dd), .val (.long a0v), .second, .val (.long a1v), .second, .val (.long a2v), .second, .val (.long k0v), .second, .val (.long k1v), .second, .val (.long k2v), .second, .unset, .unset, .unset, .unset, .unset, .unset, .unset, .unset, .unset, .unset, .unset] [])) t := fun t k => a9 t (st10 t k)
    have a12 : ∀ t, Steps p.tables e below (T10.setTop (mkF m 512 #[.val (.int p0), .val (.int p1), .val (.int p2), .val (.int p3), .val (.int p4), .val (.int cs), .val (.int wd), .val (.int sd), .val (.int (0 : Int32)), .val (.int dd), .val (.long a0v), .second, .val (.long a1v), .second, .val (.long a2v), .second, .val (.long k0v), .second, .val (.long k1v), .second, .val (.long k2v), .second, .val (.ref b7), .val .null, .val (.int (1 : Int32)), .val (.int (1 : Int32)), .val (.int (1 : Int32)), .val (.long (0 : Int64)), .second, .val (.int (0 : Int32)), .unset, .unset, .unset] [(.int (1 : Int32))])) t → Steps p.tables e below (s₁.setTop (mkF m 130 #[.val (.int p0), .val (.int p1), .val (.int p2), .val (.int p3), .val (.int p4), .val (.int cs), .val (.int wd), .val (.int sd), .val (.int (0 : Int32)), .val (.int dd), .val (.long a0v), .second, .val (.long a1v), .second, .val (.long a2v), .second, .val (.long k0v), .second, .val (.long k1v), .second, .val (.long k2v), .second, .unset, .unset, .unset, .unset, .unset, .unset, .unset, .unset, .unset, .unset, .unset] [])) t := by
      intro t k
      refine a11 t ?_
      show Steps p.tables e below (T10.setTop (mkF m 337 #[.val (.int p0), .val (.int p1), .val (.int p2), .val (.int p3), .val (.int p4), .val (.int cs), .val (.int wd), .val (.int sd), .val (.int (0 : Int32)), .val (.int dd), .val (.long a0v), .second, .val (.long a1v), .second, .val (.long a2v), .second, .val (.long k0v), .second, .val (.long k1v), .second, .val (.long k2v), .second, .val (.ref b7), .unset, .unset, .unset, .unset, .unset, .unset, .unset, .unset, .unset, .unset] [.null])) _
      refine XS.astore X10.here hx rfl (hb hby at_337) rfl rfl (l' := #[.val (.int p0), .val (.int p1), .val (.int p2), .val (.int p3), .val (.int p4), .val (.int cs), .val (.int wd), .val (.int sd), .val (.int (0 : Int32)), .val (.int dd), .val (.long a0v), .second, .val (.long a1v), .second, .val (.long a2v), .second, .val (.long k0v), .second, .val (.long k1v), .second, .val (.long k2v), .second, .val (.ref b7), .val .null, .unset, .unset, .unset, .unset, .unset, .unset, .unset, .unset, .unset]) rfl ?_
      refine XS.iload X10.here hx rfl (hb hby at_339) rfl ?_
      refine XS.iconst X10.here hx rfl (hb hby at_341) ?_
      refine XS.icmpYes X10.here hx rfl (pc0 := 342) (pc' := 361) rfl (hb hby at_342) rfl (tlt (by decide)).1 (by decide) (by decide) ?_
      refine XS.iconst X10.here hx rfl (hb hby at_361) ?_
      refine XS.goto X10.here hx rfl (pc0 := 362) (pc' := 366) rfl (hb hby at_362) (by decide) (by decide) ?_
      refine XS.istore X10.here hx rfl (hb hby at_366) rfl (l' := #[.val (.int p0), .val (.int p1), .val (.int p2), .val (.int p3), .val (.int p4), .val (.int cs), .val (.int wd), .val (.int sd), .val (.int (0 : Int32)), .val (.int dd), .val (.long a0v), .second, .val (.long a1v), .second, .val (.long a2v), .second, .val (.long k0v), .second, .val (.long k1v), .second, .val (.long k2v), .second, .val (.ref b7), .val .null, .val (.int (1 : Int32)), .unset, .unset, .unset, .unset, .unset, .unset, .unset, .unset]) rfl ?_
      refine XS.iload X10.here hx rfl (hb hby at_368) rfl ?_
      refine XS.iconst X10.here hx rfl (hb hby at_370) ?_
      refine XS.icmpYes X10.here hx rfl (pc0 := 371) (pc' := 390) rfl (hb hby at_371) rfl (tlt (by decide)).1 (by decide) (by decide) ?_
      refine XS.iconst X10.here hx rfl (hb hby at_390) ?_
      refine XS.goto X10.here hx rfl (pc0 := 391) (pc' := 395) rfl (hb hby at_391) (by decide) (by decide) ?_
      refine XS.istore X10.here hx rfl (hb hby at_395) rfl (l' := #[.val (.int p0), .val (.int p1), .val (.int p2), .val (.int p3), .val (.int p4), .val (.int cs), .val (.int wd), .val (.int sd), .val (.int (0 : Int32)), .val (.int dd), .val (.long a0v), .second, .val (.long a1v), .second, .val (.long a2v), .second, .val (.long k0v), .second, .val (.long k1v), .second, .val (.long k2v), .second, .val (.ref b7), .val .null, .val (.int (1 : Int32)), .val (.int (1 : Int32)), .unset, .unset, .unset, .unset, .unset, .unset, .unset]) rfl ?_
      refine XS.iload X10.here hx rfl (hb hby at_397) rfl ?_
      refine XS.iconst X10.here hx rfl (hb hby at_399) ?_
      refine XS.icmpYes X10.here hx rfl (pc0 := 400) (pc' := 419) rfl (hb hby at_400) rfl (tlt (by decide)).1 (by decide) (by decide) ?_
      refine XS.iconst X10.here hx rfl (hb hby at_419) ?_
      refine XS.goto X10.here hx rfl (pc0 := 420) (pc' := 424) rfl (hb hby at_420) (by decide) (by decide) ?_
      refine XS.istore X10.here hx rfl (hb hby at_424) rfl (l' := #[.val (.int p0), .val (.int p1), .val (.int p2), .val (.int p3), .val (.int p4), .val (.int cs), .val (.int wd), .val (.int sd), .val (.int (0 : Int32)), .val (.int dd), .val (.long a0v), .second, .val (.long a1v), .second, .val (.long a2v), .second, .val (.long k0v), .second, .val (.long k1v), .second, .val (.long k2v), .second, .val (.ref b7), .val .null, .val (.int (1 : Int32)), .val (.int (1 : Int32)), .val (.int (1 : Int32)), .unset, .unset, .unset, .unset, .unset, .unset]) rfl ?_
      refine XS.iload X10.here hx rfl (hb hby at_426) rfl ?_
      refine XS.iconst X10.here hx rfl (hb hby at_428) ?_
      refine XS.icmpYes X10.here hx rfl (pc0 := 429) (pc' := 437) rfl (hb hby at_429) rfl (tlt (by decide)).1 (by decide) (by decide) ?_
      refine XS.lconst X10.here hx rfl (hb hby at_437) ?_
      refine XS.iload X10.here hx rfl (hb hby at_438) rfl ?_
      refine XS.iconst X10.here hx rfl (hb hby at_440) ?_
      refine XS.icmpYes X10.here hx rfl (pc0 := 441) (pc' := 449) rfl (hb hby at_441) rfl (tlt (by decide)).1 (by decide) (by decide) ?_
      refine XS.lconst X10.here hx rfl (hb hby at_449) ?_
      refine XS.ladd X10.here hx rfl (hb hby at_450) rfl ?_
      refine XS.iload X10.here hx rfl (hb hby at_451) rfl ?_
      refine XS.iconst X10.here hx rfl (hb hby at_453) ?_
      refine XS.icmpYes X10.here hx rfl (pc0 := 454) (pc' := 462) rfl (hb hby at_454) rfl (tlt (by decide)).1 (by decide) (by decide) ?_
      refine XS.lconst X10.here hx rfl (hb hby at_462) ?_
      refine XS.ladd X10.here hx rfl (hb hby at_463) rfl ?_
      refine XS.lstore X10.here hx rfl (hb hby at_464) rfl (l' := #[.val (.int p0), .val (.int p1), .val (.int p2), .val (.int p3), .val (.int p4), .val (.int cs), .val (.int wd), .val (.int sd), .val (.int (0 : Int32)), .val (.int dd), .val (.long a0v), .second, .val (.long a1v), .second, .val (.long a2v), .second, .val (.long k0v), .second, .val (.long k1v), .second, .val (.long k2v), .second, .val (.ref b7), .val .null, .val (.int (1 : Int32)), .val (.int (1 : Int32)), .val (.int (1 : Int32)), .val (.long (0 : Int64)), .second, .unset, .unset, .unset, .unset]) rfl ?_
      refine XS.iload X10.here hx rfl (hb hby at_466) rfl ?_
      refine XS.ifNo X10.here hx rfl (hb hby at_468) rfl ((if0 _ _).trans (feq (by decide)).1) ?_
      refine XS.iload X10.here hx rfl (hb hby at_471) rfl ?_
      refine XS.ifNo X10.here hx rfl (hb hby at_473) rfl ((if0 _ _).trans (feq (by decide)).1) ?_
      refine XS.iload X10.here hx rfl (hb hby at_476) rfl ?_
      refine XS.ifNo X10.here hx rfl (hb hby at_478) rfl ((if0 _ _).trans (feq (by decide)).1) ?_
      refine XS.lload X10.here hx rfl (hb hby at_481) rfl ?_
      refine XS.iload X10.here hx rfl (hb hby at_483) rfl ?_
      refine XS.i2l X10.here hx rfl (hb hby at_485) rfl ?_
      refine XS.lcmp X10.here hx rfl (hb hby at_486) rfl ?_
      refine XS.ifYes X10.here hx rfl (pc0 := 487) (pc' := 494) rfl (hb hby at_487) rfl ((if0 _ _).trans (feq (fun q => (fun q => G10 (by have e := congrArg Int64.toInt q; rw [c_i2l, own_z64] at e; exact e)) ((lw_eq (0 : Int64) (dd.toInt64)).mp q))).2) (by decide) (by decide) ?_
      refine XS.iconst X10.here hx rfl (hb hby at_494) ?_
      refine XS.istore X10.here hx rfl (hb hby at_495) rfl (l' := #[.val (.int p0), .val (.int p1), .val (.int p2), .val (.int p3), .val (.int p4), .val (.int cs), .val (.int wd), .val (.int sd), .val (.int (0 : Int32)), .val (.int dd), .val (.long a0v), .second, .val (.long a1v), .second, .val (.long a2v), .second, .val (.long k0v), .second, .val (.long k1v), .second, .val (.long k2v), .second, .val (.ref b7), .val .null, .val (.int (1 : Int32)), .val (.int (1 : Int32)), .val (.int (1 : Int32)), .val (.long (0 : Int64)), .second, .val (.int (0 : Int32)), .unset, .unset, .unset]) rfl ?_
      refine XS.iload X10.here hx rfl (hb hby at_497) rfl ?_
      refine XS.ifNo X10.here hx rfl (hb hby at_499) rfl ((if0 _ _).trans (teq (by decide)).2) ?_
      refine XS.aload X10.here hx rfl (hb hby at_502) rfl rfl ?_
      refine XS.ifnonnullNo X10.here hx rfl (hb hby at_504) rfl ?_
      refine XS.iconst X10.here hx rfl (hb hby at_507) ?_
      refine XS.goto X10.here hx rfl (pc0 := 508) (pc' := 512) rfl (hb hby at_508) (by decide) (by decide) ?_
      exact k
    obtain ⟨fs, hr, hrun, hended, hW, hsame⟩ := X10.leave (v := some (.int (1 : Int32))) (fun h => by rw [Bd.returns] at h; cases h)
    refine ⟨_, _, a12 _ ?_, hrun, hended, _, _, rfl, ?_, ⟨_, rfl⟩, hW, hsame.mono (by decide) (by decide)⟩
    · show Steps p.tables e below (T10.setTop (mkF m 512 #[.val (.int p0), .val (.int p1), .val (.int p2), .val (.int p3), .val (.int p4), .val (.int cs), .val (.int wd), .val (.int sd), .val (.int (0 : Int32)), .val (.int dd), .val (.long a0v), .second, .val (.long a1v), .second, .val (.long a2v), .second, .val (.long k0v), .second, .val (.long k1v), .second, .val (.long k2v), .second, .val (.ref b7), .val .null, .val (.int (1 : Int32)), .val (.int (1 : Int32)), .val (.int (1 : Int32)), .val (.long (0 : Int64)), .second, .val (.int (0 : Int32)), .unset, .unset, .unset] [(.int (1 : Int32))])) _
      exact retN X10 hx (t := .boolean) Bd.returns (by simp) (hb hby at_512) hr
    · show Q0 Z p0 p1 p2 p3 p4 h0 n0 _ T10.heap _
      exact ⟨rfl, N10⟩
  ·
    have N10 := Fr.app N0 N10q
    have KK10 : Keep h0 T10.heap [] := Keep.trans K7 K10q all0
    have a13 : ∀ t, Steps p.tables e below (T10.setTop (mkF m 337 #[.val (.int p0), .val (.int p1), .val (.int p2), .val (.int p3), .val (.int p4), .val (.int cs), .val (.int wd), .val (.int sd), .val (.int (0 : Int32)), .val (.int dd), .val (.long a0v), .second, .val (.long a1v), .second, .val (.long a2v), .second, .val (.long k0v), .second, .val (.long k1v), .second, .val (.long k2v), .second, .val (.ref b7), .unset, .unset, .unset, .unset, .unset, .unset, .unset, .unset, .unset, .unset] [(.ref rb10)])) t → Steps p.tables e below (s₁.setTop (mkF m 130 #[.val (.int p0), .val (.int p1), .val (.int p2), .val (.int p3), .val (.int p4), .val (.int cs), .val (.int wd), .val (.int sd), .val (.int (0 : Int32)), .val (.int dd), .val (.long a0v), .second, .val (.long a1v), .second, .val (.long a2v), .second, .val (.long k0v), .second, .val (.long k1v), .second, .val (.long k2v), .second, .unset, .unset, .unset, .unset, .unset, .unset, .unset, .unset, .unset, .unset, .unset] [])) t := fun t k => a9 t (st10 t k)
    have a14 : ∀ t, Steps p.tables e below (T10.setTop (mkF m 520 #[.val (.int p0), .val (.int p1), .val (.int p2), .val (.int p3), .val (.int p4), .val (.int cs), .val (.int wd), .val (.int sd), .val (.int (0 : Int32)), .val (.int dd), .val (.long a0v), .second, .val (.long a1v), .second, .val (.long a2v), .second, .val (.long k0v), .second, .val (.long k1v), .second, .val (.long k2v), .second, .val (.ref b7), .val (.ref rb10), .val (.int (1 : Int32)), .val (.int (1 : Int32)), .val (.int (1 : Int32)), .val (.long (0 : Int64)), .second, .val (.int (1 : Int32)), .unset, .unset, .unset] [(.ref rb10)])) t → Steps p.tables e below (s₁.setTop (mkF m 130 #[.val (.int p0), .val (.int p1), .val (.int p2), .val (.int p3), .val (.int p4), .val (.int cs), .val (.int wd), .val (.int sd), .val (.int (0 : Int32)), .val (.int dd), .val (.long a0v), .second, .val (.long a1v), .second, .val (.long a2v), .second, .val (.long k0v), .second, .val (.long k1v), .second, .val (.long k2v), .second, .unset, .unset, .unset, .unset, .unset, .unset, .unset, .unset, .unset, .unset, .unset] [])) t := by
      intro t k
      refine a13 t ?_
      show Steps p.tables e below (T10.setTop (mkF m 337 #[.val (.int p0), .val (.int p1), .val (.int p2), .val (.int p3), .val (.int p4), .val (.int cs), .val (.int wd), .val (.int sd), .val (.int (0 : Int32)), .val (.int dd), .val (.long a0v), .second, .val (.long a1v), .second, .val (.long a2v), .second, .val (.long k0v), .second, .val (.long k1v), .second, .val (.long k2v), .second, .val (.ref b7), .unset, .unset, .unset, .unset, .unset, .unset, .unset, .unset, .unset, .unset] [(.ref rb10)])) _
      refine XS.astore X10.here hx rfl (hb hby at_337) rfl rfl (l' := #[.val (.int p0), .val (.int p1), .val (.int p2), .val (.int p3), .val (.int p4), .val (.int cs), .val (.int wd), .val (.int sd), .val (.int (0 : Int32)), .val (.int dd), .val (.long a0v), .second, .val (.long a1v), .second, .val (.long a2v), .second, .val (.long k0v), .second, .val (.long k1v), .second, .val (.long k2v), .second, .val (.ref b7), .val (.ref rb10), .unset, .unset, .unset, .unset, .unset, .unset, .unset, .unset, .unset]) rfl ?_
      refine XS.iload X10.here hx rfl (hb hby at_339) rfl ?_
      refine XS.iconst X10.here hx rfl (hb hby at_341) ?_
      refine XS.icmpYes X10.here hx rfl (pc0 := 342) (pc' := 361) rfl (hb hby at_342) rfl (tlt (by decide)).1 (by decide) (by decide) ?_
      refine XS.iconst X10.here hx rfl (hb hby at_361) ?_
      refine XS.goto X10.here hx rfl (pc0 := 362) (pc' := 366) rfl (hb hby at_362) (by decide) (by decide) ?_
      refine XS.istore X10.here hx rfl (hb hby at_366) rfl (l' := #[.val (.int p0), .val (.int p1), .val (.int p2), .val (.int p3), .val (.int p4), .val (.int cs), .val (.int wd), .val (.int sd), .val (.int (0 : Int32)), .val (.int dd), .val (.long a0v), .second, .val (.long a1v), .second, .val (.long a2v), .second, .val (.long k0v), .second, .val (.long k1v), .second, .val (.long k2v), .second, .val (.ref b7), .val (.ref rb10), .val (.int (1 : Int32)), .unset, .unset, .unset, .unset, .unset, .unset, .unset, .unset]) rfl ?_
      refine XS.iload X10.here hx rfl (hb hby at_368) rfl ?_
      refine XS.iconst X10.here hx rfl (hb hby at_370) ?_
      refine XS.icmpYes X10.here hx rfl (pc0 := 371) (pc' := 390) rfl (hb hby at_371) rfl (tlt (by decide)).1 (by decide) (by decide) ?_
      refine XS.iconst X10.here hx rfl (hb hby at_390) ?_
      refine XS.goto X10.here hx rfl (pc0 := 391) (pc' := 395) rfl (hb hby at_391) (by decide) (by decide) ?_
      refine XS.istore X10.here hx rfl (hb hby at_395) rfl (l' := #[.val (.int p0), .val (.int p1), .val (.int p2), .val (.int p3), .val (.int p4), .val (.int cs), .val (.int wd), .val (.int sd), .val (.int (0 : Int32)), .val (.int dd), .val (.long a0v), .second, .val (.long a1v), .second, .val (.long a2v), .second, .val (.long k0v), .second, .val (.long k1v), .second, .val (.long k2v), .second, .val (.ref b7), .val (.ref rb10), .val (.int (1 : Int32)), .val (.int (1 : Int32)), .unset, .unset, .unset, .unset, .unset, .unset, .unset]) rfl ?_
      refine XS.iload X10.here hx rfl (hb hby at_397) rfl ?_
      refine XS.iconst X10.here hx rfl (hb hby at_399) ?_
      refine XS.icmpYes X10.here hx rfl (pc0 := 400) (pc' := 419) rfl (hb hby at_400) rfl (tlt (by decide)).1 (by decide) (by decide) ?_
      refine XS.iconst X10.here hx rfl (hb hby at_419) ?_
      refine XS.goto X10.here hx rfl (pc0 := 420) (pc' := 424) rfl (hb hby at_420) (by decide) (by decide) ?_
      refine XS.istore X10.here hx rfl (hb hby at_424) rfl (l' := #[.val (.int p0), .val (.int p1), .val (.int p2), .val (.int p3), .val (.int p4), .val (.int cs), .val (.int wd), .val (.int sd), .val (.int (0 : Int32)), .val (.int dd), .val (.long a0v), .second, .val (.long a1v), .second, .val (.long a2v), .second, .val (.long k0v), .second, .val (.long k1v), .second, .val (.long k2v), .second, .val (.ref b7), .val (.ref rb10), .val (.int (1 : Int32)), .val (.int (1 : Int32)), .val (.int (1 : Int32)), .unset, .unset, .unset, .unset, .unset, .unset]) rfl ?_
      refine XS.iload X10.here hx rfl (hb hby at_426) rfl ?_
      refine XS.iconst X10.here hx rfl (hb hby at_428) ?_
      refine XS.icmpYes X10.here hx rfl (pc0 := 429) (pc' := 437) rfl (hb hby at_429) rfl (tlt (by decide)).1 (by decide) (by decide) ?_
      refine XS.lconst X10.here hx rfl (hb hby at_437) ?_
      refine XS.iload X10.here hx rfl (hb hby at_438) rfl ?_
      refine XS.iconst X10.here hx rfl (hb hby at_440) ?_
      refine XS.icmpYes X10.here hx rfl (pc0 := 441) (pc' := 449) rfl (hb hby at_441) rfl (tlt (by decide)).1 (by decide) (by decide) ?_
      refine XS.lconst X10.here hx rfl (hb hby at_449) ?_
      refine XS.ladd X10.here hx rfl (hb hby at_450) rfl ?_
      refine XS.iload X10.here hx rfl (hb hby at_451) rfl ?_
      refine XS.iconst X10.here hx rfl (hb hby at_453) ?_
      refine XS.icmpYes X10.here hx rfl (pc0 := 454) (pc' := 462) rfl (hb hby at_454) rfl (tlt (by decide)).1 (by decide) (by decide) ?_
      refine XS.lconst X10.here hx rfl (hb hby at_462) ?_
      refine XS.ladd X10.here hx rfl (hb hby at_463) rfl ?_
      refine XS.lstore X10.here hx rfl (hb hby at_464) rfl (l' := #[.val (.int p0), .val (.int p1), .val (.int p2), .val (.int p3), .val (.int p4), .val (.int cs), .val (.int wd), .val (.int sd), .val (.int (0 : Int32)), .val (.int dd), .val (.long a0v), .second, .val (.long a1v), .second, .val (.long a2v), .second, .val (.long k0v), .second, .val (.long k1v), .second, .val (.long k2v), .second, .val (.ref b7), .val (.ref rb10), .val (.int (1 : Int32)), .val (.int (1 : Int32)), .val (.int (1 : Int32)), .val (.long (0 : Int64)), .second, .unset, .unset, .unset, .unset]) rfl ?_
      refine XS.iload X10.here hx rfl (hb hby at_466) rfl ?_
      refine XS.ifNo X10.here hx rfl (hb hby at_468) rfl ((if0 _ _).trans (feq (by decide)).1) ?_
      refine XS.iload X10.here hx rfl (hb hby at_471) rfl ?_
      refine XS.ifNo X10.here hx rfl (hb hby at_473) rfl ((if0 _ _).trans (feq (by decide)).1) ?_
      refine XS.iload X10.here hx rfl (hb hby at_476) rfl ?_
      refine XS.ifNo X10.here hx rfl (hb hby at_478) rfl ((if0 _ _).trans (feq (by decide)).1) ?_
      refine XS.lload X10.here hx rfl (hb hby at_481) rfl ?_
      refine XS.iload X10.here hx rfl (hb hby at_483) rfl ?_
      refine XS.i2l X10.here hx rfl (hb hby at_485) rfl ?_
      refine XS.lcmp X10.here hx rfl (hb hby at_486) rfl ?_
      refine XS.ifNo X10.here hx rfl (hb hby at_487) rfl ((if0 _ _).trans (teq ((lw_eq (0 : Int64) (dd.toInt64)).mpr (Int64.toInt_inj.mp (by rw [c_i2l, own_z64]; exact G10)))).2) ?_
      refine XS.iconst X10.here hx rfl (hb hby at_490) ?_
      refine XS.goto X10.here hx rfl (pc0 := 491) (pc' := 495) rfl (hb hby at_491) (by decide) (by decide) ?_
      refine XS.istore X10.here hx rfl (hb hby at_495) rfl (l' := #[.val (.int p0), .val (.int p1), .val (.int p2), .val (.int p3), .val (.int p4), .val (.int cs), .val (.int wd), .val (.int sd), .val (.int (0 : Int32)), .val (.int dd), .val (.long a0v), .second, .val (.long a1v), .second, .val (.long a2v), .second, .val (.long k0v), .second, .val (.long k1v), .second, .val (.long k2v), .second, .val (.ref b7), .val (.ref rb10), .val (.int (1 : Int32)), .val (.int (1 : Int32)), .val (.int (1 : Int32)), .val (.long (0 : Int64)), .second, .val (.int (1 : Int32)), .unset, .unset, .unset]) rfl ?_
      refine XS.iload X10.here hx rfl (hb hby at_497) rfl ?_
      refine XS.ifYes X10.here hx rfl (pc0 := 499) (pc' := 513) rfl (hb hby at_499) rfl ((if0 _ _).trans (feq (by decide)).2) (by decide) (by decide) ?_
      refine XS.aload X10.here hx rfl (hb hby at_513) rfl rfl ?_
      refine XS.ifnullNo X10.here hx rfl (hb hby at_515) rfl ?_
      refine XS.aload X10.here hx rfl (hb hby at_518) rfl rfl ?_
      exact k
    obtain ⟨cl15, Ar15, qc15, Sz15, Nn15, Hs15, Gs15⟩ := id AR10
    have a16 : ∀ t, Steps p.tables e below (T10.setTop (mkF m 632 #[.val (.int p0), .val (.int p1), .val (.int p2), .val (.int p3), .val (.int p4), .val (.int cs), .val (.int wd), .val (.int sd), .val (.int (0 : Int32)), .val (.int dd), .val (.long a0v), .second, .val (.long a1v), .second, .val (.long a2v), .second, .val (.long k0v), .second, .val (.long k1v), .second, .val (.long k2v), .second, .val (.ref b7), .val (.ref rb10), .val (.int (1 : Int32)), .val (.int (1 : Int32)), .val (.int (1 : Int32)), .val (.long (0 : Int64)), .second, .val (.int (1 : Int32)), .val (.int (1 : Int32)), .val (.int (1 : Int32)), .val (.int (1 : Int32))] [(.int (1 : Int32))])) t → Steps p.tables e below (s₁.setTop (mkF m 130 #[.val (.int p0), .val (.int p1), .val (.int p2), .val (.int p3), .val (.int p4), .val (.int cs), .val (.int wd), .val (.int sd), .val (.int (0 : Int32)), .val (.int dd), .val (.long a0v), .second, .val (.long a1v), .second, .val (.long a2v), .second, .val (.long k0v), .second, .val (.long k1v), .second, .val (.long k2v), .second, .unset, .unset, .unset, .unset, .unset, .unset, .unset, .unset, .unset, .unset, .unset] [])) t := by
      intro t k
      refine a14 t ?_
      show Steps p.tables e below (T10.setTop (mkF m 520 #[.val (.int p0), .val (.int p1), .val (.int p2), .val (.int p3), .val (.int p4), .val (.int cs), .val (.int wd), .val (.int sd), .val (.int (0 : Int32)), .val (.int dd), .val (.long a0v), .second, .val (.long a1v), .second, .val (.long a2v), .second, .val (.long k0v), .second, .val (.long k1v), .second, .val (.long k2v), .second, .val (.ref b7), .val (.ref rb10), .val (.int (1 : Int32)), .val (.int (1 : Int32)), .val (.int (1 : Int32)), .val (.long (0 : Int64)), .second, .val (.int (1 : Int32)), .unset, .unset, .unset] [(.ref rb10)])) _
      refine X10.arraylength hx Ar15.1 (State.isArrayOf_alike hZ.alike Ar15.2.1) (g := (mkF m 520 #[.val (.int p0), .val (.int p1), .val (.int p2), .val (.int p3), .val (.int p4), .val (.int cs), .val (.int wd), .val (.int sd), .val (.int (0 : Int32)), .val (.int dd), .val (.long a0v), .second, .val (.long a1v), .second, .val (.long a2v), .second, .val (.long k0v), .second, .val (.long k1v), .second, .val (.long k2v), .second, .val (.ref b7), .val (.ref rb10), .val (.int (1 : Int32)), .val (.int (1 : Int32)), .val (.int (1 : Int32)), .val (.long (0 : Int64)), .second, .val (.int (1 : Int32)), .unset, .unset, .unset] [(.ref rb10)])) rfl rfl (hb hby at_520) _ ?_
      rw [len_of Sz15 Nn15]
      refine XS.iload X10.here hx rfl (hb hby at_521) rfl ?_
      refine XS.icmpYes X10.here hx rfl (pc0 := 523) (pc' := 528) rfl (hb hby at_523) rfl (teq (by decide)).1 (by decide) (by decide) ?_
      refine XS.iload X10.here hx rfl (hb hby at_528) rfl ?_
      refine XS.iconst X10.here hx rfl (hb hby at_530) ?_
      refine XS.icmpYes X10.here hx rfl (pc0 := 531) (pc' := 549) rfl (hb hby at_531) rfl (tlt (by decide)).1 (by decide) (by decide) ?_
      refine XS.iconst X10.here hx rfl (hb hby at_549) ?_
      refine XS.goto X10.here hx rfl (pc0 := 550) (pc' := 554) rfl (hb hby at_550) (by decide) (by decide) ?_
      refine XS.istore X10.here hx rfl (hb hby at_554) rfl (l' := #[.val (.int p0), .val (.int p1), .val (.int p2), .val (.int p3), .val (.int p4), .val (.int cs), .val (.int wd), .val (.int sd), .val (.int (0 : Int32)), .val (.int dd), .val (.long a0v), .second, .val (.long a1v), .second, .val (.long a2v), .second, .val (.long k0v), .second, .val (.long k1v), .second, .val (.long k2v), .second, .val (.ref b7), .val (.ref rb10), .val (.int (1 : Int32)), .val (.int (1 : Int32)), .val (.int (1 : Int32)), .val (.long (0 : Int64)), .second, .val (.int (1 : Int32)), .val (.int (1 : Int32)), .unset, .unset]) rfl ?_
      refine XS.iload X10.here hx rfl (hb hby at_556) rfl ?_
      refine XS.iconst X10.here hx rfl (hb hby at_558) ?_
      refine XS.icmpYes X10.here hx rfl (pc0 := 559) (pc' := 577) rfl (hb hby at_559) rfl (tlt (by decide)).1 (by decide) (by decide) ?_
      refine XS.iconst X10.here hx rfl (hb hby at_577) ?_
      refine XS.goto X10.here hx rfl (pc0 := 578) (pc' := 582) rfl (hb hby at_578) (by decide) (by decide) ?_
      refine XS.istore X10.here hx rfl (hb hby at_582) rfl (l' := #[.val (.int p0), .val (.int p1), .val (.int p2), .val (.int p3), .val (.int p4), .val (.int cs), .val (.int wd), .val (.int sd), .val (.int (0 : Int32)), .val (.int dd), .val (.long a0v), .second, .val (.long a1v), .second, .val (.long a2v), .second, .val (.long k0v), .second, .val (.long k1v), .second, .val (.long k2v), .second, .val (.ref b7), .val (.ref rb10), .val (.int (1 : Int32)), .val (.int (1 : Int32)), .val (.int (1 : Int32)), .val (.long (0 : Int64)), .second, .val (.int (1 : Int32)), .val (.int (1 : Int32)), .val (.int (1 : Int32)), .unset]) rfl ?_
      refine XS.iload X10.here hx rfl (hb hby at_584) rfl ?_
      refine XS.iconst X10.here hx rfl (hb hby at_586) ?_
      refine XS.icmpYes X10.here hx rfl (pc0 := 587) (pc' := 605) rfl (hb hby at_587) rfl (tlt (by decide)).1 (by decide) (by decide) ?_
      refine XS.iconst X10.here hx rfl (hb hby at_605) ?_
      refine XS.goto X10.here hx rfl (pc0 := 606) (pc' := 610) rfl (hb hby at_606) (by decide) (by decide) ?_
      refine XS.istore X10.here hx rfl (hb hby at_610) rfl (l' := #[.val (.int p0), .val (.int p1), .val (.int p2), .val (.int p3), .val (.int p4), .val (.int cs), .val (.int wd), .val (.int sd), .val (.int (0 : Int32)), .val (.int dd), .val (.long a0v), .second, .val (.long a1v), .second, .val (.long a2v), .second, .val (.long k0v), .second, .val (.long k1v), .second, .val (.long k2v), .second, .val (.ref b7), .val (.ref rb10), .val (.int (1 : Int32)), .val (.int (1 : Int32)), .val (.int (1 : Int32)), .val (.long (0 : Int64)), .second, .val (.int (1 : Int32)), .val (.int (1 : Int32)), .val (.int (1 : Int32)), .val (.int (1 : Int32))]) rfl ?_
      refine XS.iload X10.here hx rfl (hb hby at_612) rfl ?_
      refine XS.ifNo X10.here hx rfl (hb hby at_614) rfl ((if0 _ _).trans (feq (by decide)).1) ?_
      refine XS.iload X10.here hx rfl (hb hby at_617) rfl ?_
      refine XS.ifNo X10.here hx rfl (hb hby at_619) rfl ((if0 _ _).trans (feq (by decide)).1) ?_
      refine XS.iload X10.here hx rfl (hb hby at_622) rfl ?_
      refine XS.ifNo X10.here hx rfl (hb hby at_624) rfl ((if0 _ _).trans (feq (by decide)).1) ?_
      refine XS.iconst X10.here hx rfl (hb hby at_627) ?_
      refine XS.goto X10.here hx rfl (pc0 := 628) (pc' := 632) rfl (hb hby at_628) (by decide) (by decide) ?_
      exact k
    obtain ⟨fs, hr, hrun, hended, hW, hsame⟩ := X10.leave (v := some (.int (1 : Int32))) (fun h => by rw [Bd.returns] at h; cases h)
    refine ⟨_, _, a16 _ ?_, hrun, hended, _, _, rfl, ?_, ⟨_, rfl⟩, hW, hsame.mono (by decide) (by decide)⟩
    · show Steps p.tables e below (T10.setTop (mkF m 632 #[.val (.int p0), .val (.int p1), .val (.int p2), .val (.int p3), .val (.int p4), .val (.int cs), .val (.int wd), .val (.int sd), .val (.int (0 : Int32)), .val (.int dd), .val (.long a0v), .second, .val (.long a1v), .second, .val (.long a2v), .second, .val (.long k0v), .second, .val (.long k1v), .second, .val (.long k2v), .second, .val (.ref b7), .val (.ref rb10), .val (.int (1 : Int32)), .val (.int (1 : Int32)), .val (.int (1 : Int32)), .val (.long (0 : Int64)), .second, .val (.int (1 : Int32)), .val (.int (1 : Int32)), .val (.int (1 : Int32)), .val (.int (1 : Int32))] [(.int (1 : Int32))])) _
      exact retN X10 hx (t := .boolean) Bd.returns (by simp) (hb hby at_632) hr
    · show Q0 Z p0 p1 p2 p3 p4 h0 n0 _ T10.heap _
      exact ⟨rfl, N10⟩
set_option maxRecDepth 65536 in
set_option maxHeartbeats 40000000 in
theorem tl1 (l : Launch) (Z : State) (a0 : Array Value) (hw : ∀ d ∈ tables_1, d.before a0 Z = true) (ws : List Jvm.Cond) (p0 : Int32) (p1 : Int32) (p2 : Int32) (p3 : Int32) (p4 : Int32) (h0 : Heap) (n0 : Nat) (Z0 : n0 ≤ h0.size) (cs wd sd dd : Int32) (a0v a1v a2v k0v k1v k2v : Int64) {p : Program} {e : Env} {s : State} {m : MethodId} {below : List Frame} {meth : Method} {c : Code} {sB : State} (Bd : BodyLoose p l x (head1 (Jvm.Cond.code x code maxLocals ret :: ws) room_1) code maxLocals ret e s m #[(.int p0), (.int p1), (.int p2), (.int p3), (.int p4)] below meth c sB) (hml : c.maxLocals = 33) (hZ : Z.Warmed39 s.vm) (s₁ : State) (Lc : List Loc) (X0 : Stand p l e room_1 s m #[(.int p0), (.int p1), (.int p2), (.int p3), (.int p4)] below meth c s₁ Lc 0 0) (e0 : s₁.heap = h0) (N0 : Fr n0 Lc) (hdd : OwnD dd) (B_a0v : -2147483648 ≤ a0v.toInt ∧ a0v.toInt ≤ 2147483648) (B_a1v : -2147483648 ≤ a1v.toInt ∧ a1v.toInt ≤ 2147483648) (B_a2v : -2147483648 ≤ a2v.toInt ∧ a2v.toInt ≤ 2147483648) (J_k0v : OwnK a0v dd k0v) (J_k1v : OwnK a1v dd k1v) (J_k2v : OwnK a2v dd k2v) :
    ∃ s₂ o, Steps p.tables e below (s₁.setTop (mkF m 130 #[.val (.int p0), .val (.int p1), .val (.int p2), .val (.int p3), .val (.int p4), .val (.int cs), .val (.int wd), .val (.int sd), .val (.int (1 : Int32)), .val (.int dd), .val (.long a0v), .second, .val (.long a1v), .second, .val (.long a2v), .second, .val (.long k0v), .second, .val (.long k1v), .second, .val (.long k2v), .second, .unset, .unset, .unset, .unset, .unset, .unset, .unset, .unset, .unset, .unset, .unset] [])) s₂ ∧ s₂.status = .running ∧ Ended s₂ below o ∧ ∃ v L, o = .returned v ∧ Q0 Z p0 p1 p2 p3 p4 h0 n0 v s₂.heap L ∧ FrameEnd s o s₂ L room_1.cells room_1.slots := by
  have hx := Bd.exec
  have hby := Bd.bytes
  have hown : s.vm.findClass "com/example/tillerfront/tillerfront/engine/ReferencePointsNearestPinLaw" = some m.cls := findClass_of_methodNamed Bd.named
  have hnm := (name_of_methodNamed Bd.named Bd.method).1
  have pre0 : ∀ t, Steps p.tables e below (s₁.setTop (mkF m 130 #[.val (.int p0), .val (.int p1), .val (.int p2), .val (.int p3), .val (.int p4), .val (.int cs), .val (.int wd), .val (.int sd), .val (.int (1 : Int32)), .val (.int dd), .val (.long a0v), .second, .val (.long a1v), .second, .val (.long a2v), .second, .val (.long k0v), .second, .val (.long k1v), .second, .val (.long k2v), .second, .unset, .unset, .unset, .unset, .unset, .unset, .unset, .unset, .unset, .unset, .unset] [])) t → Steps p.tables e below (s₁.setTop (mkF m 130 #[.val (.int p0), .val (.int p1), .val (.int p2), .val (.int p3), .val (.int p4), .val (.int cs), .val (.int wd), .val (.int sd), .val (.int (1 : Int32)), .val (.int dd), .val (.long a0v), .second, .val (.long a1v), .second, .val (.long a2v), .second, .val (.long k0v), .second, .val (.long k1v), .second, .val (.long k2v), .second, .unset, .unset, .unset, .unset, .unset, .unset, .unset, .unset, .unset, .unset, .unset] [])) t := fun t k => k
  have a1 : ∀ t, Steps p.tables e below (s₁.setTop (mkF m 132 #[.val (.int p0), .val (.int p1), .val (.int p2), .val (.int p3), .val (.int p4), .val (.int cs), .val (.int wd), .val (.int sd), .val (.int (1 : Int32)), .val (.int dd), .val (.long a0v), .second, .val (.long a1v), .second, .val (.long a2v), .second, .val (.long k0v), .second, .val (.long k1v), .second, .val (.long k2v), .second, .unset, .unset, .unset, .unset, .unset, .unset, .unset, .unset, .unset, .unset, .unset] [(.int cs)])) t → Steps p.tables e below (s₁.setTop (mkF m 130 #[.val (.int p0), .val (.int p1), .val (.int p2), .val (.int p3), .val (.int p4), .val (.int cs), .val (.int wd), .val (.int sd), .val (.int (1 : Int32)), .val (.int dd), .val (.long a0v), .second, .val (.long a1v), .second, .val (.long a2v), .second, .val (.long k0v), .second, .val (.long k1v), .second, .val (.long k2v), .second, .unset, .unset, .unset, .unset, .unset, .unset, .unset, .unset, .unset, .unset, .unset] [])) t := by
    intro t k
    refine pre0 t ?_
    show Steps p.tables e below (s₁.setTop (mkF m 130 #[.val (.int p0), .val (.int p1), .val (.int p2), .val (.int p3), .val (.int p4), .val (.int cs), .val (.int wd), .val (.int sd), .val (.int (1 : Int32)), .val (.int dd), .val (.long a0v), .second, .val (.long a1v), .second, .val (.long a2v), .second, .val (.long k0v), .second, .val (.long k1v), .second, .val (.long k2v), .second, .unset, .unset, .unset, .unset, .unset, .unset, .unset, .unset, .unset, .unset, .unset] [])) _
    refine XS.iload X0.here hx rfl (hb hby at_130) rfl ?_
    exact k
  obtain ⟨T14, LL14, aN, kN, s22, s23, s24, s25, s26, s27, X14, e14, N14, JJ, a14⟩ : ∃ (T14 : State) (LL14 : List Loc) (aN : Int64) (kN : Int64) (s22 : Slot) (s23 : Slot) (s24 : Slot) (s25 : Slot) (s26 : Slot) (s27 : Slot), Stand p l e room_1 s m #[(.int p0), (.int p1), (.int p2), (.int p3), (.int p4)] below meth c T14 LL14 0 0 ∧ T14.heap = h0 ∧ Fr n0 LL14 ∧ (OwnK aN dd kN ∧ ((s22 = .unset ∧ s23 = .unset) ∨ ∃ z, s22 = .val (.long z) ∧ s23 = .second) ∧ ((s24 = .unset ∧ s25 = .unset) ∨ ∃ z, s24 = .val (.long z) ∧ s25 = .second) ∧ ((s26 = .unset ∧ s27 = .unset) ∨ ∃ z, s26 = .val (.long z) ∧ s27 = .second)) ∧ ∀ t, Steps p.tables e below (T14.setTop (mkF m 273 #[.val (.int p0), .val (.int p1), .val (.int p2), .val (.int p3), .val (.int p4), .val (.int cs), .val (.int wd), .val (.int sd), .val (.int (1 : Int32)), .val (.int dd), .val (.long aN), .second, .val (.long a1v), .second, .val (.long a2v), .second, .val (.long kN), .second, .val (.long k1v), .second, .val (.long k2v), .second, s22, s23, s24, s25, s26, s27, .unset, .unset, .unset, .unset, .unset] [])) t → Steps p.tables e below (s₁.setTop (mkF m 130 #[.val (.int p0), .val (.int p1), .val (.int p2), .val (.int p3), .val (.int p4), .val (.int cs), .val (.int wd), .val (.int sd), .val (.int (1 : Int32)), .val (.int dd), .val (.long a0v), .second, .val (.long a1v), .second, .val (.long a2v), .second, .val (.long k0v), .second, .val (.long k1v), .second, .val (.long k2v), .second, .unset, .unset, .unset, .unset, .unset, .unset, .unset, .unset, .unset, .unset, .unset] [])) t := by
    by_cases hc132_2 : cs = (0 : Int32)
    ·
      have a3 : ∀ t, Steps p.tables e below (s₁.setTop (mkF m 273 #[.val (.int p0), .val (.int p1), .val (.int p2), .val (.int p3), .val (.int p4), .val (.int cs), .val (.int wd), .val (.int sd), .val (.int (1 : Int32)), .val (.int dd), .val (.long a0v), .second, .val (.long a1v), .second, .val (.long a2v), .second, .val (.long k0v), .second, .val (.long k1v), .second, .val (.long k2v), .second, .unset, .unset, .unset, .unset, .unset, .unset, .unset, .unset, .unset, .unset, .unset] [])) t → Steps p.tables e below (s₁.setTop (mkF m 130 #[.val (.int p0), .val (.int p1), .val (.int p2), .val (.int p3), .val (.int p4), .val (.int cs), .val (.int wd), .val (.int sd), .val (.int (1 : Int32)), .val (.int dd), .val (.long a0v), .second, .val (.long a1v), .second, .val (.long a2v), .second, .val (.long k0v), .second, .val (.long k1v), .second, .val (.long k2v), .second, .unset, .unset, .unset, .unset, .unset, .unset, .unset, .unset, .unset, .unset, .unset] [])) t := by
        intro t k
        refine a1 t ?_
        show Steps p.tables e below (s₁.setTop (mkF m 132 #[.val (.int p0), .val (.int p1), .val (.int p2), .val (.int p3), .val (.int p4), .val (.int cs), .val (.int wd), .val (.int sd), .val (.int (1 : Int32)), .val (.int dd), .val (.long a0v), .second, .val (.long a1v), .second, .val (.long a2v), .second, .val (.long k0v), .second, .val (.long k1v), .second, .val (.long k2v), .second, .unset, .unset, .unset, .unset, .unset, .unset, .unset, .unset, .unset, .unset, .unset] [(.int cs)])) _
        refine XS.ifYes X0.here hx rfl (pc0 := 132) (pc' := 273) rfl (hb hby at_132) rfl ((if0 _ _).trans (teq hc132_2).1) (by decide) (by decide) ?_
        exact k
      exact ⟨s₁, _, a0v, k0v, .unset, .unset, .unset, .unset, .unset, .unset, X0, e0, N0, ⟨J_k0v, Or.inl ⟨rfl, rfl⟩, Or.inl ⟨rfl, rfl⟩, Or.inl ⟨rfl, rfl⟩⟩, a3⟩
    ·
      have a4 : ∀ t, Steps p.tables e below (s₁.setTop (mkF m 180 #[.val (.int p0), .val (.int p1), .val (.int p2), .val (.int p3), .val (.int p4), .val (.int cs), .val (.int wd), .val (.int sd), .val (.int (1 : Int32)), .val (.int dd), .val (.long a0v), .second, .val (.long a1v), .second, .val (.long a2v), .second, .val (.long k0v), .second, .val (.long k1v), .second, .val (.long k2v), .second, .val (.long (0 : Int64)), .second, .val (.long ((dd.toInt64) - (0 : Int64))), .second, .unset, .unset, .unset, .unset, .unset, .unset, .unset] [(.int (lcmpW ((dd.toInt64) - (0 : Int64)) (0 : Int64)))])) t → Steps p.tables e below (s₁.setTop (mkF m 130 #[.val (.int p0), .val (.int p1), .val (.int p2), .val (.int p3), .val (.int p4), .val (.int cs), .val (.int wd), .val (.int sd), .val (.int (1 : Int32)), .val (.int dd), .val (.long a0v), .second, .val (.long a1v), .second, .val (.long a2v), .second, .val (.long k0v), .second, .val (.long k1v), .second, .val (.long k2v), .second, .unset, .unset, .unset, .unset, .unset, .unset, .unset, .unset, .unset, .unset, .unset] [])) t := by
        intro t k
        refine a1 t ?_
        show Steps p.tables e below (s₁.setTop (mkF m 132 #[.val (.int p0), .val (.int p1), .val (.int p2), .val (.int p3), .val (.int p4), .val (.int cs), .val (.int wd), .val (.int sd), .val (.int (1 : Int32)), .val (.int dd), .val (.long a0v), .second, .val (.long a1v), .second, .val (.long a2v), .second, .val (.long k0v), .second, .val (.long k1v), .second, .val (.long k2v), .second, .unset, .unset, .unset, .unset, .unset, .unset, .unset, .unset, .unset, .unset, .unset] [(.int cs)])) _
        refine XS.ifNo X0.here hx rfl (hb hby at_132) rfl ((if0 _ _).trans (feq hc132_2).1) ?_
        refine XS.iload X0.here hx rfl (hb hby at_135) rfl ?_
        refine XS.iconst X0.here hx rfl (hb hby at_137) ?_
        refine XS.icmpNo X0.here hx rfl (hb hby at_138) rfl (flt (by decide)).1 ?_
        refine XS.iload X0.here hx rfl (hb hby at_141) rfl ?_
        refine XS.iconst X0.here hx rfl (hb hby at_143) ?_
        refine XS.icmpYes X0.here hx rfl (pc0 := 144) (pc' := 152) rfl (hb hby at_144) rfl (tlt (by decide)).1 (by decide) (by decide) ?_
        refine XS.lconst X0.here hx rfl (hb hby at_152) ?_
        refine XS.iload X0.here hx rfl (hb hby at_153) rfl ?_
        refine XS.iconst X0.here hx rfl (hb hby at_155) ?_
        refine XS.icmpYes X0.here hx rfl (pc0 := 156) (pc' := 164) rfl (hb hby at_156) rfl (tlt (by decide)).1 (by decide) (by decide) ?_
        refine XS.lconst X0.here hx rfl (hb hby at_164) ?_
        refine XS.ladd X0.here hx rfl (hb hby at_165) rfl ?_
        refine XS.lstore X0.here hx rfl (hb hby at_166) rfl (l' := #[.val (.int p0), .val (.int p1), .val (.int p2), .val (.int p3), .val (.int p4), .val (.int cs), .val (.int wd), .val (.int sd), .val (.int (1 : Int32)), .val (.int dd), .val (.long a0v), .second, .val (.long a1v), .second, .val (.long a2v), .second, .val (.long k0v), .second, .val (.long k1v), .second, .val (.long k2v), .second, .val (.long (0 : Int64)), .second, .unset, .unset, .unset, .unset, .unset, .unset, .unset, .unset, .unset]) rfl ?_
        refine XS.iload X0.here hx rfl (hb hby at_168) rfl ?_
        refine XS.i2l X0.here hx rfl (hb hby at_170) rfl ?_
        refine XS.lload X0.here hx rfl (hb hby at_171) rfl ?_
        refine XS.lsub X0.here hx rfl (hb hby at_173) rfl ?_
        refine XS.lstore X0.here hx rfl (hb hby at_174) rfl (l' := #[.val (.int p0), .val (.int p1), .val (.int p2), .val (.int p3), .val (.int p4), .val (.int cs), .val (.int wd), .val (.int sd), .val (.int (1 : Int32)), .val (.int dd), .val (.long a0v), .second, .val (.long a1v), .second, .val (.long a2v), .second, .val (.long k0v), .second, .val (.long k1v), .second, .val (.long k2v), .second, .val (.long (0 : Int64)), .second, .val (.long ((dd.toInt64) - (0 : Int64))), .second, .unset, .unset, .unset, .unset, .unset, .unset, .unset]) rfl ?_
        refine XS.lload X0.here hx rfl (hb hby at_176) rfl ?_
        refine XS.lconst X0.here hx rfl (hb hby at_178) ?_
        refine XS.lcmp X0.here hx rfl (hb hby at_179) rfl ?_
        exact k
      by_cases hc180_5 : ((dd.toInt64) - (0 : Int64)) < (0 : Int64)
      ·
        have a6 : ∀ t, Steps p.tables e below (s₁.setTop (mkF m 273 #[.val (.int p0), .val (.int p1), .val (.int p2), .val (.int p3), .val (.int p4), .val (.int cs), .val (.int wd), .val (.int sd), .val (.int (1 : Int32)), .val (.int dd), .val (.long a0v), .second, .val (.long a1v), .second, .val (.long a2v), .second, .val (.long k0v), .second, .val (.long k1v), .second, .val (.long k2v), .second, .val (.long (0 : Int64)), .second, .val (.long ((dd.toInt64) - (0 : Int64))), .second, .unset, .unset, .unset, .unset, .unset, .unset, .unset] [])) t → Steps p.tables e below (s₁.setTop (mkF m 130 #[.val (.int p0), .val (.int p1), .val (.int p2), .val (.int p3), .val (.int p4), .val (.int cs), .val (.int wd), .val (.int sd), .val (.int (1 : Int32)), .val (.int dd), .val (.long a0v), .second, .val (.long a1v), .second, .val (.long a2v), .second, .val (.long k0v), .second, .val (.long k1v), .second, .val (.long k2v), .second, .unset, .unset, .unset, .unset, .unset, .unset, .unset, .unset, .unset, .unset, .unset] [])) t := by
          intro t k
          refine a4 t ?_
          show Steps p.tables e below (s₁.setTop (mkF m 180 #[.val (.int p0), .val (.int p1), .val (.int p2), .val (.int p3), .val (.int p4), .val (.int cs), .val (.int wd), .val (.int sd), .val (.int (1 : Int32)), .val (.int dd), .val (.long a0v), .second, .val (.long a1v), .second, .val (.long a2v), .second, .val (.long k0v), .second, .val (.long k1v), .second, .val (.long k2v), .second, .val (.long (0 : Int64)), .second, .val (.long ((dd.toInt64) - (0 : Int64))), .second, .unset, .unset, .unset, .unset, .unset, .unset, .unset] [(.int (lcmpW ((dd.toInt64) - (0 : Int64)) (0 : Int64)))])) _
          refine XS.ifYes X0.here hx rfl (pc0 := 180) (pc' := 273) rfl (hb hby at_180) rfl ((if0 _ _).trans (tlt ((lw_lt ((dd.toInt64) - (0 : Int64)) (0 : Int64)).mpr hc180_5)).1) (by decide) (by decide) ?_
          exact k
        exact ⟨s₁, _, a0v, k0v, .val (.long (0 : Int64)), .second, .val (.long ((dd.toInt64) - (0 : Int64))), .second, .unset, .unset, X0, e0, N0, ⟨J_k0v, Or.inr ⟨_, rfl, rfl⟩, Or.inr ⟨_, rfl, rfl⟩, Or.inl ⟨rfl, rfl⟩⟩, a6⟩
      ·
        have a7 : ∀ t, Steps p.tables e below (s₁.setTop (mkF m 189 #[.val (.int p0), .val (.int p1), .val (.int p2), .val (.int p3), .val (.int p4), .val (.int cs), .val (.int wd), .val (.int sd), .val (.int (1 : Int32)), .val (.int dd), .val (.long a0v), .second, .val (.long a1v), .second, .val (.long a2v), .second, .val (.long k0v), .second, .val (.long k1v), .second, .val (.long k2v), .second, .val (.long (0 : Int64)), .second, .val (.long ((dd.toInt64) - (0 : Int64))), .second, .unset, .unset, .unset, .unset, .unset, .unset, .unset] [(.int (lcmpW ((dd.toInt64) - (0 : Int64)) (dd.toInt64)))])) t → Steps p.tables e below (s₁.setTop (mkF m 130 #[.val (.int p0), .val (.int p1), .val (.int p2), .val (.int p3), .val (.int p4), .val (.int cs), .val (.int wd), .val (.int sd), .val (.int (1 : Int32)), .val (.int dd), .val (.long a0v), .second, .val (.long a1v), .second, .val (.long a2v), .second, .val (.long k0v), .second, .val (.long k1v), .second, .val (.long k2v), .second, .unset, .unset, .unset, .unset, .unset, .unset, .unset, .unset, .unset, .unset, .unset] [])) t := by
          intro t k
          refine a4 t ?_
          show Steps p.tables e below (s₁.setTop (mkF m 180 #[.val (.int p0), .val (.int p1), .val (.int p2), .val (.int p3), .val (.int p4), .val (.int cs), .val (.int wd), .val (.int sd), .val (.int (1 : Int32)), .val (.int dd), .val (.long a0v), .second, .val (.long a1v), .second, .val (.long a2v), .second, .val (.long k0v), .second, .val (.long k1v), .second, .val (.long k2v), .second, .val (.long (0 : Int64)), .second, .val (.long ((dd.toInt64) - (0 : Int64))), .second, .unset, .unset, .unset, .unset, .unset, .unset, .unset] [(.int (lcmpW ((dd.toInt64) - (0 : Int64)) (0 : Int64)))])) _
          refine XS.ifNo X0.here hx rfl (hb hby at_180) rfl ((if0 _ _).trans (flt (fun q => hc180_5 ((lw_lt ((dd.toInt64) - (0 : Int64)) (0 : Int64)).mp q))).1) ?_
          refine XS.lload X0.here hx rfl (hb hby at_183) rfl ?_
          refine XS.iload X0.here hx rfl (hb hby at_185) rfl ?_
          refine XS.i2l X0.here hx rfl (hb hby at_187) rfl ?_
          refine XS.lcmp X0.here hx rfl (hb hby at_188) rfl ?_
          exact k
        by_cases hc189_8 : (dd.toInt64) < ((dd.toInt64) - (0 : Int64))
        ·
          have a9 : ∀ t, Steps p.tables e below (s₁.setTop (mkF m 273 #[.val (.int p0), .val (.int p1), .val (.int p2), .val (.int p3), .val (.int p4), .val (.int cs), .val (.int wd), .val (.int sd), .val (.int (1 : Int32)), .val (.int dd), .val (.long a0v), .second, .val (.long a1v), .second, .val (.long a2v), .second, .val (.long k0v), .second, .val (.long k1v), .second, .val (.long k2v), .second, .val (.long (0 : Int64)), .second, .val (.long ((dd.toInt64) - (0 : Int64))), .second, .unset, .unset, .unset, .unset, .unset, .unset, .unset] [])) t → Steps p.tables e below (s₁.setTop (mkF m 130 #[.val (.int p0), .val (.int p1), .val (.int p2), .val (.int p3), .val (.int p4), .val (.int cs), .val (.int wd), .val (.int sd), .val (.int (1 : Int32)), .val (.int dd), .val (.long a0v), .second, .val (.long a1v), .second, .val (.long a2v), .second, .val (.long k0v), .second, .val (.long k1v), .second, .val (.long k2v), .second, .unset, .unset, .unset, .unset, .unset, .unset, .unset, .unset, .unset, .unset, .unset] [])) t := by
            intro t k
            refine a7 t ?_
            show Steps p.tables e below (s₁.setTop (mkF m 189 #[.val (.int p0), .val (.int p1), .val (.int p2), .val (.int p3), .val (.int p4), .val (.int cs), .val (.int wd), .val (.int sd), .val (.int (1 : Int32)), .val (.int dd), .val (.long a0v), .second, .val (.long a1v), .second, .val (.long a2v), .second, .val (.long k0v), .second, .val (.long k1v), .second, .val (.long k2v), .second, .val (.long (0 : Int64)), .second, .val (.long ((dd.toInt64) - (0 : Int64))), .second, .unset, .unset, .unset, .unset, .unset, .unset, .unset] [(.int (lcmpW ((dd.toInt64) - (0 : Int64)) (dd.toInt64)))])) _
            refine XS.ifYes X0.here hx rfl (pc0 := 189) (pc' := 273) rfl (hb hby at_189) rfl ((if0 _ _).trans (tlt ((lw_gt ((dd.toInt64) - (0 : Int64)) (dd.toInt64)).mpr hc189_8)).2.2.1) (by decide) (by decide) ?_
            exact k
          exact ⟨s₁, _, a0v, k0v, .val (.long (0 : Int64)), .second, .val (.long ((dd.toInt64) - (0 : Int64))), .second, .unset, .unset, X0, e0, N0, ⟨J_k0v, Or.inr ⟨_, rfl, rfl⟩, Or.inr ⟨_, rfl, rfl⟩, Or.inl ⟨rfl, rfl⟩⟩, a9⟩
        ·
          have a10 : ∀ t, Steps p.tables e below (s₁.setTop (mkF m 226 #[.val (.int p0), .val (.int p1), .val (.int p2), .val (.int p3), .val (.int p4), .val (.int cs), .val (.int wd), .val (.int sd), .val (.int (1 : Int32)), .val (.int dd), .val (.long ((((1024 : Int64) * ((dd.toInt64) - (0 : Int64))) + ((dd / (2 : Int32)).toInt64)) / (dd.toInt64))), .second, .val (.long a1v), .second, .val (.long a2v), .second, .val (.long k0v), .second, .val (.long k1v), .second, .val (.long k2v), .second, .val (.long (0 : Int64)), .second, .val (.long ((dd.toInt64) - (0 : Int64))), .second, .val (.long ((((1024 : Int64) * ((dd.toInt64) - (0 : Int64))) + ((dd / (2 : Int32)).toInt64)) / (dd.toInt64))), .second, .unset, .unset, .unset, .unset, .unset] [(.long (((((1024 : Int64) * ((dd.toInt64) - (0 : Int64))) + ((dd / (2 : Int32)).toInt64)) / (dd.toInt64)) * (dd.toInt64)))])) t → Steps p.tables e below (s₁.setTop (mkF m 130 #[.val (.int p0), .val (.int p1), .val (.int p2), .val (.int p3), .val (.int p4), .val (.int cs), .val (.int wd), .val (.int sd), .val (.int (1 : Int32)), .val (.int dd), .val (.long a0v), .second, .val (.long a1v), .second, .val (.long a2v), .second, .val (.long k0v), .second, .val (.long k1v), .second, .val (.long k2v), .second, .unset, .unset, .unset, .unset, .unset, .unset, .unset, .unset, .unset, .unset, .unset] [])) t := by
            intro t k
            refine a7 t ?_
            show Steps p.tables e below (s₁.setTop (mkF m 189 #[.val (.int p0), .val (.int p1), .val (.int p2), .val (.int p3), .val (.int p4), .val (.int cs), .val (.int wd), .val (.int sd), .val (.int (1 : Int32)), .val (.int dd), .val (.long a0v), .second, .val (.long a1v), .second, .val (.long a2v), .second, .val (.long k0v), .second, .val (.long k1v), .second, .val (.long k2v), .second, .val (.long (0 : Int64)), .second, .val (.long ((dd.toInt64) - (0 : Int64))), .second, .unset, .unset, .unset, .unset, .unset, .unset, .unset] [(.int (lcmpW ((dd.toInt64) - (0 : Int64)) (dd.toInt64)))])) _
            refine XS.ifNo X0.here hx rfl (hb hby at_189) rfl ((if0 _ _).trans (flt (fun q => hc189_8 ((lw_gt ((dd.toInt64) - (0 : Int64)) (dd.toInt64)).mp q))).2.2.1) ?_
            refine X0.ldc2Long hx hown (mvT hZ (hw _ (List.mem_of_getElem? (i := 10) rfl))) (g := (mkF m 192 #[.val (.int p0), .val (.int p1), .val (.int p2), .val (.int p3), .val (.int p4), .val (.int cs), .val (.int wd), .val (.int sd), .val (.int (1 : Int32)), .val (.int dd), .val (.long a0v), .second, .val (.long a1v), .second, .val (.long a2v), .second, .val (.long k0v), .second, .val (.long k1v), .second, .val (.long k2v), .second, .val (.long (0 : Int64)), .second, .val (.long ((dd.toInt64) - (0 : Int64))), .second, .unset, .unset, .unset, .unset, .unset, .unset, .unset] [])) rfl (hb hby at_192) _ ?_
            refine XS.lload X0.here hx rfl (hb hby at_195) rfl ?_
            refine XS.lmul X0.here hx rfl (hb hby at_197) rfl ?_
            refine XS.iload X0.here hx rfl (hb hby at_198) rfl ?_
            refine XS.iconst X0.here hx rfl (hb hby at_200) ?_
            refine XS.idiv X0.here hx rfl (hb hby at_201) rfl (by decide) ?_
            refine XS.i2l X0.here hx rfl (hb hby at_202) rfl ?_
            refine XS.ladd X0.here hx rfl (hb hby at_203) rfl ?_
            refine XS.iload X0.here hx rfl (hb hby at_204) rfl ?_
            refine XS.i2l X0.here hx rfl (hb hby at_206) rfl ?_
            refine XS.ldiv X0.here hx rfl (hb hby at_207) rfl (own_nzd hdd) ?_
            refine XS.lstore X0.here hx rfl (hb hby at_208) rfl (l' := #[.val (.int p0), .val (.int p1), .val (.int p2), .val (.int p3), .val (.int p4), .val (.int cs), .val (.int wd), .val (.int sd), .val (.int (1 : Int32)), .val (.int dd), .val (.long a0v), .second, .val (.long a1v), .second, .val (.long a2v), .second, .val (.long k0v), .second, .val (.long k1v), .second, .val (.long k2v), .second, .val (.long (0 : Int64)), .second, .val (.long ((dd.toInt64) - (0 : Int64))), .second, .val (.long ((((1024 : Int64) * ((dd.toInt64) - (0 : Int64))) + ((dd / (2 : Int32)).toInt64)) / (dd.toInt64))), .second, .unset, .unset, .unset, .unset, .unset]) rfl ?_
            refine XS.iload X0.here hx rfl (hb hby at_210) rfl ?_
            refine XS.iconst X0.here hx rfl (hb hby at_212) ?_
            refine XS.icmpNo X0.here hx rfl (hb hby at_213) rfl (teq (by decide)).2 ?_
            refine XS.lload X0.here hx rfl (hb hby at_216) rfl ?_
            refine XS.lstore X0.here hx rfl (hb hby at_218) rfl (l' := #[.val (.int p0), .val (.int p1), .val (.int p2), .val (.int p3), .val (.int p4), .val (.int cs), .val (.int wd), .val (.int sd), .val (.int (1 : Int32)), .val (.int dd), .val (.long ((((1024 : Int64) * ((dd.toInt64) - (0 : Int64))) + ((dd / (2 : Int32)).toInt64)) / (dd.toInt64))), .second, .val (.long a1v), .second, .val (.long a2v), .second, .val (.long k0v), .second, .val (.long k1v), .second, .val (.long k2v), .second, .val (.long (0 : Int64)), .second, .val (.long ((dd.toInt64) - (0 : Int64))), .second, .val (.long ((((1024 : Int64) * ((dd.toInt64) - (0 : Int64))) + ((dd / (2 : Int32)).toInt64)) / (dd.toInt64))), .second, .unset, .unset, .unset, .unset, .unset]) rfl ?_
            refine XS.lload X0.here hx rfl (hb hby at_220) rfl ?_
            refine XS.iload X0.here hx rfl (hb hby at_222) rfl ?_
            refine XS.i2l X0.here hx rfl (hb hby at_224) rfl ?_
            refine XS.lmul X0.here hx rfl (hb hby at_225) rfl ?_
            exact k
          obtain ⟨_, _, ⟨T11, L11, k11, n11⟩, -, X11, ⟨Lc11, hQ11, l11, y11, z11⟩, st11⟩ := Jvm.LawKit.callS X0 hx (y := (⟨"com/example/tillerfront/tillerfront/engine/ReferencePointsNearestPinLaw", "rnd", "(J)J"⟩ : MethodName)) hown (mvT hZ (hw _ (List.mem_of_getElem? (i := 5) rfl))) (mvT hZ (hw _ (List.mem_of_getElem? (i := 6) rfl))) (mvT hZ (hw _ (List.mem_of_getElem? (i := 3) rfl))) (mvT hZ (hw _ (List.mem_of_getElem? (i := 7) rfl))) (by decide) (backOf (W := 0) (rmR l Z a0 hw [] (((((1024 : Int64) * ((dd.toInt64) - (0 : Int64))) + ((dd / (2 : Int32)).toInt64)) / (dd.toInt64)) * (dd.toInt64)) h0 n0 Z0 (by rw [own_lmul (own_a hdd hc180_5 hc189_8) hdd]; have := own_prod_bd (own_a hdd hc180_5 hc189_8) hdd; omega)) hZ (hw _ (List.mem_of_getElem? (i := 7) rfl)) (hw _ (List.mem_of_getElem? (i := 3) rfl)) (by decide) (by decide)) (g := (mkF m 226 #[.val (.int p0), .val (.int p1), .val (.int p2), .val (.int p3), .val (.int p4), .val (.int cs), .val (.int wd), .val (.int sd), .val (.int (1 : Int32)), .val (.int dd), .val (.long ((((1024 : Int64) * ((dd.toInt64) - (0 : Int64))) + ((dd / (2 : Int32)).toInt64)) / (dd.toInt64))), .second, .val (.long a1v), .second, .val (.long a2v), .second, .val (.long k0v), .second, .val (.long k1v), .second, .val (.long k2v), .second, .val (.long (0 : Int64)), .second, .val (.long ((dd.toInt64) - (0 : Int64))), .second, .val (.long ((((1024 : Int64) * ((dd.toInt64) - (0 : Int64))) + ((dd / (2 : Int32)).toInt64)) / (dd.toInt64))), .second, .unset, .unset, .unset, .unset, .unset] [(.long (((((1024 : Int64) * ((dd.toInt64) - (0 : Int64))) + ((dd / (2 : Int32)).toInt64)) / (dd.toInt64)) * (dd.toInt64)))])) rfl (by rw [hml]; rfl) (argsL := [(.long (((((1024 : Int64) * ((dd.toInt64) - (0 : Int64))) + ((dd / (2 : Int32)).toInt64)) / (dd.toInt64)) * (dd.toInt64)))]) (rest := []) (lenOf own_pd2 rfl) rfl (by show 2 * 0 + _ ≤ _; exact Nat.le_of_eq rfl) (hb hby at_226) (fun _ _ => ⟨rfl, e0, (by decide : 0 + 0 ≤ _), (by decide : 0 + 0 ≤ _)⟩)
          dsimp only [Pt.U, Pt.locs, Pt.cells, Pt.slots] at X11 l11 y11 z11 st11 hQ11
          subst l11 y11 z11
          obtain ⟨kN2, rfl, R_kN2, N11q, e11q⟩ := hQ11
          have N11 := Fr.app N0 N11q
          have J_kN2 : OwnK ((((1024 : Int64) * ((dd.toInt64) - (0 : Int64))) + ((dd / (2 : Int32)).toInt64)) / (dd.toInt64)) dd kN2 := ⟨(own_a hdd hc180_5 hc189_8), by rw [R_kN2, own_lmul (own_a hdd hc180_5 hc189_8) hdd]⟩
          have a12 : ∀ t, Steps p.tables e below (T11.setTop (mkF m 229 #[.val (.int p0), .val (.int p1), .val (.int p2), .val (.int p3), .val (.int p4), .val (.int cs), .val (.int wd), .val (.int sd), .val (.int (1 : Int32)), .val (.int dd), .val (.long ((((1024 : Int64) * ((dd.toInt64) - (0 : Int64))) + ((dd / (2 : Int32)).toInt64)) / (dd.toInt64))), .second, .val (.long a1v), .second, .val (.long a2v), .second, .val (.long k0v), .second, .val (.long k1v), .second, .val (.long k2v), .second, .val (.long (0 : Int64)), .second, .val (.long ((dd.toInt64) - (0 : Int64))), .second, .val (.long ((((1024 : Int64) * ((dd.toInt64) - (0 : Int64))) + ((dd / (2 : Int32)).toInt64)) / (dd.toInt64))), .second, .unset, .unset, .unset, .unset, .unset] [(.long kN2)])) t → Steps p.tables e below (s₁.setTop (mkF m 130 #[.val (.int p0), .val (.int p1), .val (.int p2), .val (.int p3), .val (.int p4), .val (.int cs), .val (.int wd), .val (.int sd), .val (.int (1 : Int32)), .val (.int dd), .val (.long a0v), .second, .val (.long a1v), .second, .val (.long a2v), .second, .val (.long k0v), .second, .val (.long k1v), .second, .val (.long k2v), .second, .unset, .unset, .unset, .unset, .unset, .unset, .unset, .unset, .unset, .unset, .unset] [])) t := fun t k => a10 t (st11 t k)
          have a13 : ∀ t, Steps p.tables e below (T11.setTop (mkF m 273 #[.val (.int p0), .val (.int p1), .val (.int p2), .val (.int p3), .val (.int p4), .val (.int cs), .val (.int wd), .val (.int sd), .val (.int (1 : Int32)), .val (.int dd), .val (.long ((((1024 : Int64) * ((dd.toInt64) - (0 : Int64))) + ((dd / (2 : Int32)).toInt64)) / (dd.toInt64))), .second, .val (.long a1v), .second, .val (.long a2v), .second, .val (.long kN2), .second, .val (.long k1v), .second, .val (.long k2v), .second, .val (.long (0 : Int64)), .second, .val (.long ((dd.toInt64) - (0 : Int64))), .second, .val (.long ((((1024 : Int64) * ((dd.toInt64) - (0 : Int64))) + ((dd / (2 : Int32)).toInt64)) / (dd.toInt64))), .second, .unset, .unset, .unset, .unset, .unset] [])) t → Steps p.tables e below (s₁.setTop (mkF m 130 #[.val (.int p0), .val (.int p1), .val (.int p2), .val (.int p3), .val (.int p4), .val (.int cs), .val (.int wd), .val (.int sd), .val (.int (1 : Int32)), .val (.int dd), .val (.long a0v), .second, .val (.long a1v), .second, .val (.long a2v), .second, .val (.long k0v), .second, .val (.long k1v), .second, .val (.long k2v), .second, .unset, .unset, .unset, .unset, .unset, .unset, .unset, .unset, .unset, .unset, .unset] [])) t := by
            intro t k
            refine a12 t ?_
            show Steps p.tables e below (T11.setTop (mkF m 229 #[.val (.int p0), .val (.int p1), .val (.int p2), .val (.int p3), .val (.int p4), .val (.int cs), .val (.int wd), .val (.int sd), .val (.int (1 : Int32)), .val (.int dd), .val (.long ((((1024 : Int64) * ((dd.toInt64) - (0 : Int64))) + ((dd / (2 : Int32)).toInt64)) / (dd.toInt64))), .second, .val (.long a1v), .second, .val (.long a2v), .second, .val (.long k0v), .second, .val (.long k1v), .second, .val (.long k2v), .second, .val (.long (0 : Int64)), .second, .val (.long ((dd.toInt64) - (0 : Int64))), .second, .val (.long ((((1024 : Int64) * ((dd.toInt64) - (0 : Int64))) + ((dd / (2 : Int32)).toInt64)) / (dd.toInt64))), .second, .unset, .unset, .unset, .unset, .unset] [(.long kN2)])) _
            refine XS.lstore X11.here hx rfl (hb hby at_229) rfl (l' := #[.val (.int p0), .val (.int p1), .val (.int p2), .val (.int p3), .val (.int p4), .val (.int cs), .val (.int wd), .val (.int sd), .val (.int (1 : Int32)), .val (.int dd), .val (.long ((((1024 : Int64) * ((dd.toInt64) - (0 : Int64))) + ((dd / (2 : Int32)).toInt64)) / (dd.toInt64))), .second, .val (.long a1v), .second, .val (.long a2v), .second, .val (.long kN2), .second, .val (.long k1v), .second, .val (.long k2v), .second, .val (.long (0 : Int64)), .second, .val (.long ((dd.toInt64) - (0 : Int64))), .second, .val (.long ((((1024 : Int64) * ((dd.toInt64) - (0 : Int64))) + ((dd / (2 : Int32)).toInt64)) / (dd.toInt64))), .second, .unset, .unset, .unset, .unset, .unset]) rfl ?_
            refine XS.goto X11.here hx rfl (pc0 := 231) (pc' := 273) rfl (hb hby at_231) (by decide) (by decide) ?_
            exact k
          exact ⟨T11, _, ((((1024 : Int64) * ((dd.toInt64) - (0 : Int64))) + ((dd / (2 : Int32)).toInt64)) / (dd.toInt64)), kN2, .val (.long (0 : Int64)), .second, .val (.long ((dd.toInt64) - (0 : Int64))), .second, .val (.long ((((1024 : Int64) * ((dd.toInt64) - (0 : Int64))) + ((dd / (2 : Int32)).toInt64)) / (dd.toInt64))), .second, X11, e11q, N11, ⟨J_kN2, Or.inr ⟨_, rfl, rfl⟩, Or.inr ⟨_, rfl, rfl⟩, Or.inr ⟨_, rfl, rfl⟩⟩, a13⟩
  obtain ⟨J_kN, JS22, JS24, JS26⟩ := JJ
  have a15 : ∀ t, Steps p.tables e below (T14.setTop (mkF m 275 #[.val (.int p0), .val (.int p1), .val (.int p2), .val (.int p3), .val (.int p4), .val (.int cs), .val (.int wd), .val (.int sd), .val (.int (1 : Int32)), .val (.int dd), .val (.long aN), .second, .val (.long a1v), .second, .val (.long a2v), .second, .val (.long kN), .second, .val (.long k1v), .second, .val (.long k2v), .second, s22, s23, s24, s25, s26, s27, .unset, .unset, .unset, .unset, .unset] [(.int (1 : Int32))])) t → Steps p.tables e below (s₁.setTop (mkF m 130 #[.val (.int p0), .val (.int p1), .val (.int p2), .val (.int p3), .val (.int p4), .val (.int cs), .val (.int wd), .val (.int sd), .val (.int (1 : Int32)), .val (.int dd), .val (.long a0v), .second, .val (.long a1v), .second, .val (.long a2v), .second, .val (.long k0v), .second, .val (.long k1v), .second, .val (.long k2v), .second, .unset, .unset, .unset, .unset, .unset, .unset, .unset, .unset, .unset, .unset, .unset] [])) t := by
    intro t k
    refine a14 t ?_
    show Steps p.tables e below (T14.setTop (mkF m 273 #[.val (.int p0), .val (.int p1), .val (.int p2), .val (.int p3), .val (.int p4), .val (.int cs), .val (.int wd), .val (.int sd), .val (.int (1 : Int32)), .val (.int dd), .val (.long aN), .second, .val (.long a1v), .second, .val (.long a2v), .second, .val (.long kN), .second, .val (.long k1v), .second, .val (.long k2v), .second, s22, s23, s24, s25, s26, s27, .unset, .unset, .unset, .unset, .unset] [])) _
    refine XS.iload X14.here hx rfl (hb hby at_273) rfl ?_
    exact k
  obtain ⟨T16, h16, kk16, X16, e16, E16, A16, st16⟩ := newP X14 hx hZ (hw _ (List.mem_of_getElem? (i := 11) rfl)) e14 (g := (mkF m 275 #[.val (.int p0), .val (.int p1), .val (.int p2), .val (.int p3), .val (.int p4), .val (.int cs), .val (.int wd), .val (.int sd), .val (.int (1 : Int32)), .val (.int dd), .val (.long aN), .second, .val (.long a1v), .second, .val (.long a2v), .second, .val (.long kN), .second, .val (.long k1v), .second, .val (.long k2v), .second, s22, s23, s24, s25, s26, s27, .unset, .unset, .unset, .unset, .unset] [(.int (1 : Int32))])) rfl (hb hby at_275) rfl (by decide) (cap := 1) (by decide) (by decide) (by decide) (by decide)
  obtain ⟨b16, g16⟩ : ∃ z, z = h0.size := ⟨_, rfl⟩
  rw [← g16] at A16 st16
  have g_b16 : n0 ≤ b16 := Nat.le_trans Z0 (Nat.le_of_eq g16.symm)
  have sz_b16 : h0.size ≤ b16 := Nat.le_trans ((Keep.refl h0 [])).1 (Nat.le_of_eq g16.symm)
  have V_b16 : Arv Z h16 b16 kk16 .double (1 : Int32) [(.double (0 : UInt64))] (.double (0 : UInt64)) := (Arv.new A16 (by decide)).pad (pad_rep [] (.double (0 : UInt64)) 1)
  have K16 : Keep h0 h16 [] := Keep.ext (Keep.refl h0 []) E16
  have a17 : ∀ t, Steps p.tables e below (T16.setTop (mkF m 277 #[.val (.int p0), .val (.int p1), .val (.int p2), .val (.int p3), .val (.int p4), .val (.int cs), .val (.int wd), .val (.int sd), .val (.int (1 : Int32)), .val (.int dd), .val (.long aN), .second, .val (.long a1v), .second, .val (.long a2v), .second, .val (.long kN), .second, .val (.long k1v), .second, .val (.long k2v), .second, s22, s23, s24, s25, s26, s27, .unset, .unset, .unset, .unset, .unset] [(.ref b16)])) t → Steps p.tables e below (s₁.setTop (mkF m 130 #[.val (.int p0), .val (.int p1), .val (.int p2), .val (.int p3), .val (.int p4), .val (.int cs), .val (.int wd), .val (.int sd), .val (.int (1 : Int32)), .val (.int dd), .val (.long a0v), .second, .val (.long a1v), .second, .val (.long a2v), .second, .val (.long k0v), .second, .val (.long k1v), .second, .val (.long k2v), .second, .unset, .unset, .unset, .unset, .unset, .unset, .unset, .unset, .unset, .unset, .unset] [])) t := fun t k => a15 t (st16 t k)
  have a18 : ∀ t, Steps p.tables e below (T16.setTop (mkF m 295 #[.val (.int p0), .val (.int p1), .val (.int p2), .val (.int p3), .val (.int p4), .val (.int cs), .val (.int wd), .val (.int sd), .val (.int (1 : Int32)), .val (.int dd), .val (.long aN), .second, .val (.long a1v), .second, .val (.long a2v), .second, .val (.long kN), .second, .val (.long k1v), .second, .val (.long k2v), .second, .val (.ref b16), .unset, s24, s25, s26, s27, .unset, .unset, .unset, .unset, .unset] [(.double (FP.ddiv (FP.l2d aN) (4652218415073722368 : UInt64))), (.int (0 : Int32)), (.ref b16)])) t → Steps p.tables e below (s₁.setTop (mkF m 130 #[.val (.int p0), .val (.int p1), .val (.int p2), .val (.int p3), .val (.int p4), .val (.int cs), .val (.int wd), .val (.int sd), .val (.int (1 : Int32)), .val (.int dd), .val (.long a0v), .second, .val (.long a1v), .second, .val (.long a2v), .second, .val (.long k0v), .second, .val (.long k1v), .second, .val (.long k2v), .second, .unset, .unset, .unset, .unset, .unset, .unset, .unset, .unset, .unset, .unset, .unset] [])) t := by
    intro t k
    refine a17 t ?_
    show Steps p.tables e below (T16.setTop (mkF m 277 #[.val (.int p0), .val (.int p1), .val (.int p2), .val (.int p3), .val (.int p4), .val (.int cs), .val (.int wd), .val (.int sd), .val (.int (1 : Int32)), .val (.int dd), .val (.long aN), .second, .val (.long a1v), .second, .val (.long a2v), .second, .val (.long kN), .second, .val (.long k1v), .second, .val (.long k2v), .second, s22, s23, s24, s25, s26, s27, .unset, .unset, .unset, .unset, .unset] [(.ref b16)])) _
    refine XS.astore X16.here hx rfl (hb hby at_277) rfl rfl (l' := #[.val (.int p0), .val (.int p1), .val (.int p2), .val (.int p3), .val (.int p4), .val (.int cs), .val (.int wd), .val (.int sd), .val (.int (1 : Int32)), .val (.int dd), .val (.long aN), .second, .val (.long a1v), .second, .val (.long a2v), .second, .val (.long kN), .second, .val (.long k1v), .second, .val (.long k2v), .second, .val (.ref b16), .unset, s24, s25, s26, s27, .unset, .unset, .unset, .unset, .unset]) (by rcases JS22 with ⟨rfl, rfl⟩ | ⟨z, rfl, rfl⟩ <;> rfl) ?_
    refine XS.iload X16.here hx rfl (hb hby at_279) rfl ?_
    refine XS.iconst X16.here hx rfl (hb hby at_281) ?_
    refine XS.icmpNo X16.here hx rfl (hb hby at_282) rfl (flt (by decide)).1 ?_
    refine XS.aload X16.here hx rfl (hb hby at_285) rfl rfl ?_
    refine XS.iconst X16.here hx rfl (hb hby at_287) ?_
    refine XS.lload X16.here hx rfl (hb hby at_288) rfl ?_
    refine XS.l2dS X16.here hx rfl (hb hby at_290) rfl rfl ?_
    refine X16.ldc2DoubleC hx hown (mvT hZ (hw _ (List.mem_of_getElem? (i := 16) rfl))) (g := (mkF m 291 #[.val (.int p0), .val (.int p1), .val (.int p2), .val (.int p3), .val (.int p4), .val (.int cs), .val (.int wd), .val (.int sd), .val (.int (1 : Int32)), .val (.int dd), .val (.long aN), .second, .val (.long a1v), .second, .val (.long a2v), .second, .val (.long kN), .second, .val (.long k1v), .second, .val (.long k2v), .second, .val (.ref b16), .unset, s24, s25, s26, s27, .unset, .unset, .unset, .unset, .unset] [(.double (FP.l2d aN)), (.int (0 : Int32)), (.ref b16)])) rfl (hb hby at_291) _ ?_
    refine XS.ddivS X16.here hx rfl (hb hby at_294) rfl (nn64 (own_x J_kN.1).1) rfl ?_
    exact k
  obtain ⟨cl19, Ar19, qc19, Sz19, Nn19, Hs19, Gs19⟩ := id V_b16
  have hin19 : ¬ ((0 : Int32) < 0 ∨ cl19.slots.size ≤ ((0 : Int32)).toNatClampNeg) := inb_of Sz19 ⟨by decide, by decide⟩
  obtain ⟨T20, h20, X20, e20, W20, st20⟩ := stD X16 hx hZ e16 Ar19 (j := (0 : Int32)) hin19 (g := (mkF m 295 #[.val (.int p0), .val (.int p1), .val (.int p2), .val (.int p3), .val (.int p4), .val (.int cs), .val (.int wd), .val (.int sd), .val (.int (1 : Int32)), .val (.int dd), .val (.long aN), .second, .val (.long a1v), .second, .val (.long a2v), .second, .val (.long kN), .second, .val (.long k1v), .second, .val (.long k2v), .second, .val (.ref b16), .unset, s24, s25, s26, s27, .unset, .unset, .unset, .unset, .unset] [(.double (FP.ddiv (FP.l2d aN) (4652218415073722368 : UInt64))), (.int (0 : Int32)), (.ref b16)])) rfl rfl (hb hby at_295)
  have V20 : Arv Z h20 b16 kk16 .double (1 : Int32) [(.double (FP.ddiv (FP.l2d aN) (4652218415073722368 : UInt64)))] (.double (0 : UInt64)) := Arv.set Ar19 qc19 Sz19 Nn19 Hs19 Gs19 rfl W20 0 rfl (Nat.le_of_ble_eq_true rfl)
  have N20 := Fr.snoc X20 N14 g_b16
  have K20 : Keep h0 h20 [] := Keep.wr K16 W20 (Or.inr sz_b16)
  have a21 : ∀ t, Steps p.tables e below (T20.setTop (mkF m 296 #[.val (.int p0), .val (.int p1), .val (.int p2), .val (.int p3), .val (.int p4), .val (.int cs), .val (.int wd), .val (.int sd), .val (.int (1 : Int32)), .val (.int dd), .val (.long aN), .second, .val (.long a1v), .second, .val (.long a2v), .second, .val (.long kN), .second, .val (.long k1v), .second, .val (.long k2v), .second, .val (.ref b16), .unset, s24, s25, s26, s27, .unset, .unset, .unset, .unset, .unset] [])) t → Steps p.tables e below (s₁.setTop (mkF m 130 #[.val (.int p0), .val (.int p1), .val (.int p2), .val (.int p3), .val (.int p4), .val (.int cs), .val (.int wd), .val (.int sd), .val (.int (1 : Int32)), .val (.int dd), .val (.long a0v), .second, .val (.long a1v), .second, .val (.long a2v), .second, .val (.long k0v), .second, .val (.long k1v), .second, .val (.long k2v), .second, .unset, .unset, .unset, .unset, .unset, .unset, .unset, .unset, .unset, .unset, .unset] [])) t := fun t k => a18 t (st20 t k)
  have a22 : ∀ t, Steps p.tables e below (T20.setTop (mkF m 334 #[.val (.int p0), .val (.int p1), .val (.int p2), .val (.int p3), .val (.int p4), .val (.int cs), .val (.int wd), .val (.int sd), .val (.int (1 : Int32)), .val (.int dd), .val (.long aN), .second, .val (.long a1v), .second, .val (.long a2v), .second, .val (.long kN), .second, .val (.long k1v), .second, .val (.long k2v), .second, .val (.ref b16), .unset, s24, s25, s26, s27, .unset, .unset, .unset, .unset, .unset] [(.int dd), (.ref b16)])) t → Steps p.tables e below (s₁.setTop (mkF m 130 #[.val (.int p0), .val (.int p1), .val (.int p2), .val (.int p3), .val (.int p4), .val (.int cs), .val (.int wd), .val (.int sd), .val (.int (1 : Int32)), .val (.int dd), .val (.long a0v), .second, .val (.long a1v), .second, .val (.long a2v), .second, .val (.long k0v), .second, .val (.long k1v), .second, .val (.long k2v), .second, .unset, .unset, .unset, .unset, .unset, .unset, .unset, .unset, .unset, .unset, .unset] [])) t := by
    intro t k
    refine a21 t ?_
    show Steps p.tables e below (T20.setTop (mkF m 296 #[.val (.int p0), .val (.int p1), .val (.int p2), .val (.int p3), .val (.int p4), .val (.int cs), .val (.int wd), .val (.int sd), .val (.int (1 : Int32)), .val (.int dd), .val (.long aN), .second, .val (.long a1v), .second, .val (.long a2v), .second, .val (.long kN), .second, .val (.long k1v), .second, .val (.long k2v), .second, .val (.ref b16), .unset, s24, s25, s26, s27, .unset, .unset, .unset, .unset, .unset] [])) _
    refine XS.iload X20.here hx rfl (hb hby at_296) rfl ?_
    refine XS.iconst X20.here hx rfl (hb hby at_298) ?_
    refine XS.icmpYes X20.here hx rfl (pc0 := 299) (pc' := 313) rfl (hb hby at_299) rfl (tlt (by decide)).1 (by decide) (by decide) ?_
    refine XS.iload X20.here hx rfl (hb hby at_313) rfl ?_
    refine XS.iconst X20.here hx rfl (hb hby at_315) ?_
    refine XS.icmpYes X20.here hx rfl (pc0 := 316) (pc' := 330) rfl (hb hby at_316) rfl (tlt (by decide)).1 (by decide) (by decide) ?_
    refine XS.aload X20.here hx rfl (hb hby at_330) rfl rfl ?_
    refine XS.iload X20.here hx rfl (hb hby at_332) rfl ?_
    exact k
  obtain ⟨_, _, ⟨T23, L23, k23, n23⟩, -, X23, ⟨Lc23, hQ23, l23, y23, z23⟩, st23⟩ := Jvm.LawKit.callS X20 hx (y := (⟨"com/example/tillerfront/tillerfront/engine/ReferencePoints", "nearest", "([DI)[D"⟩ : MethodName)) hown (mvT hZ (hw _ (List.mem_of_getElem? (i := 12) rfl))) (mvT hZ (hw _ (List.mem_of_getElem? (i := 13) rfl))) (mvT hZ (hw _ (List.mem_of_getElem? (i := 14) rfl))) (mvT hZ (hw _ (List.mem_of_getElem? (i := 15) rfl))) (by decide) (backOf (W := 0) (rmN1 l Z a0 hw [] b16 dd kk16 aN kN h20 n0 (Nat.le_trans (Nat.le_trans Z0 E16.1) (Keep.of_wr W20).1) V20 hdd J_kN) hZ (hw _ (List.mem_of_getElem? (i := 15) rfl)) (hw _ (List.mem_of_getElem? (i := 14) rfl)) (by decide) (by decide)) (g := (mkF m 334 #[.val (.int p0), .val (.int p1), .val (.int p2), .val (.int p3), .val (.int p4), .val (.int cs), .val (.int wd), .val (.int sd), .val (.int (1 : Int32)), .val (.int dd), .val (.long aN), .second, .val (.long a1v), .second, .val (.long a2v), .second, .val (.long kN), .second, .val (.long k1v), .second, .val (.long k2v), .second, .val (.ref b16), .unset, s24, s25, s26, s27, .unset, .unset, .unset, .unset, .unset] [(.int dd), (.ref b16)])) rfl (by rw [hml]; rfl) (argsL := [(.ref b16), (.int dd)]) (rest := []) (lenOf own_pd3 rfl) rfl (by show 2 * 0 + _ ≤ _; exact Nat.le_of_eq rfl) (hb hby at_334) (fun _ _ => ⟨rfl, e20, (by decide : 1 + 1 ≤ _), (by decide : 1 + 3 ≤ _)⟩)
  dsimp only [Pt.U, Pt.locs, Pt.cells, Pt.slots] at X23 l23 y23 z23 st23 hQ23
  subst l23 y23 z23
  rcases hQ23 with ⟨rfl, G23, N23q, K23q⟩ | ⟨rb23, kb23, rfl, G23, N23q, K23q, AR23⟩
  ·
    have N23 := Fr.app N20 N23q
    have KK23 : Keep h0 T23.heap [] := Keep.trans K20 K23q all0
    have a24 : ∀ t, Steps p.tables e below (T23.setTop (mkF m 337 #[.val (.int p0), .val (.int p1), .val (.int p2), .val (.int p3), .val (.int p4), .val (.int cs), .val (.int wd), .val (.int sd), .val (.int (1 : Int32)), .val (.int dd), .val (.long aN), .second, .val (.long a1v), .second, .val (.long a2v), .second, .val (.long kN), .second, .val (.long k1v), .second, .val (.long k2v), .second, .val (.ref b16), .unset, s24, s25, s26, s27, .unset, .unset, .unset, .unset, .unset] [.null])) t → Steps p.tables e below (s₁.setTop (mkF m 130 #[.val (.int p0), .val (.int p1), .val (.int p2), .val (.int p3), .val (.int p4), .val (.int cs), .val (.int wd), .val (.int sd), .val (.int (1 : Int32)), .val (.int dd), .val (.long a0v), .second, .val (.long a1v), .second, .val (.long a2v), .second, .val (.long k0v), .second, .val (.long k1v), .second, .val (.long k2v), .second, .unset, .unset, .unset, .unset, .unset, .unset, .unset, .unset, .unset, .unset, .unset] [])) t := fun t k => a22 t (st23 t k)
    have a25 : ∀ t, Steps p.tables e below (T23.setTop (mkF m 349 #[.val (.int p0), .val (.int p1), .val (.int p2), .val (.int p3), .val (.int p4), .val (.int cs), .val (.int wd), .val (.int sd), .val (.int (1 : Int32)), .val (.int dd), .val (.long aN), .second, .val (.long a1v), .second, .val (.long a2v), .second, .val (.long kN), .second, .val (.long k1v), .second, .val (.long k2v), .second, .val (.ref b16), .val .null, s24, s25, s26, s27, .unset, .unset, .unset, .unset, .unset] [(.int (lcmpW kN (0 : Int64)))])) t → Steps p.tables e below (s₁.setTop (mkF m 130 #[.val (.int p0), .val (.int p1), .val (.int p2), .val (.int p3), .val (.int p4), .val (.int cs), .val (.int wd), .val (.int sd), .val (.int (1 : Int32)), .val (.int dd), .val (.long a0v), .second, .val (.long a1v), .second, .val (.long a2v), .second, .val (.long k0v), .second, .val (.long k1v), .second, .val (.long k2v), .second, .unset, .unset, .unset, .unset, .unset, .unset, .unset, .unset, .unset, .unset, .unset] [])) t := by
      intro t k
      refine a24 t ?_
      show Steps p.tables e below (T23.setTop (mkF m 337 #[.val (.int p0), .val (.int p1), .val (.int p2), .val (.int p3), .val (.int p4), .val (.int cs), .val (.int wd), .val (.int sd), .val (.int (1 : Int32)), .val (.int dd), .val (.long aN), .second, .val (.long a1v), .second, .val (.long a2v), .second, .val (.long kN), .second, .val (.long k1v), .second, .val (.long k2v), .second, .val (.ref b16), .unset, s24, s25, s26, s27, .unset, .unset, .unset, .unset, .unset] [.null])) _
      refine XS.astore X23.here hx rfl (hb hby at_337) rfl rfl (l' := #[.val (.int p0), .val (.int p1), .val (.int p2), .val (.int p3), .val (.int p4), .val (.int cs), .val (.int wd), .val (.int sd), .val (.int (1 : Int32)), .val (.int dd), .val (.long aN), .second, .val (.long a1v), .second, .val (.long a2v), .second, .val (.long kN), .second, .val (.long k1v), .second, .val (.long k2v), .second, .val (.ref b16), .val .null, s24, s25, s26, s27, .unset, .unset, .unset, .unset, .unset]) rfl ?_
      refine XS.iload X23.here hx rfl (hb hby at_339) rfl ?_
      refine XS.iconst X23.here hx rfl (hb hby at_341) ?_
      refine XS.icmpNo X23.here hx rfl (hb hby at_342) rfl (flt (by decide)).1 ?_
      refine XS.lload X23.here hx rfl (hb hby at_345) rfl ?_
      refine XS.lconst X23.here hx rfl (hb hby at_347) ?_
      refine XS.lcmp X23.here hx rfl (hb hby at_348) rfl ?_
      exact k
    obtain ⟨ok0, JO0, a32⟩ : ∃ (ok0 : Int32), ((ok0 = 1 ∧ OwnOk kN dd) ∨ (ok0 = 0 ∧ ¬ OwnOk kN dd)) ∧ ∀ t, Steps p.tables e below (T23.setTop (mkF m 366 #[.val (.int p0), .val (.int p1), .val (.int p2), .val (.int p3), .val (.int p4), .val (.int cs), .val (.int wd), .val (.int sd), .val (.int (1 : Int32)), .val (.int dd), .val (.long aN), .second, .val (.long a1v), .second, .val (.long a2v), .second, .val (.long kN), .second, .val (.long k1v), .second, .val (.long k2v), .second, .val (.ref b16), .val .null, s24, s25, s26, s27, .unset, .unset, .unset, .unset, .unset] [(.int ok0)])) t → Steps p.tables e below (s₁.setTop (mkF m 130 #[.val (.int p0), .val (.int p1), .val (.int p2), .val (.int p3), .val (.int p4), .val (.int cs), .val (.int wd), .val (.int sd), .val (.int (1 : Int32)), .val (.int dd), .val (.long a0v), .second, .val (.long a1v), .second, .val (.long a2v), .second, .val (.long k0v), .second, .val (.long k1v), .second, .val (.long k2v), .second, .unset, .unset, .unset, .unset, .unset, .unset, .unset, .unset, .unset, .unset, .unset] [])) t := by
      by_cases hc349_26 : kN < (0 : Int64)
      ·
        have a27 : ∀ t, Steps p.tables e below (T23.setTop (mkF m 366 #[.val (.int p0), .val (.int p1), .val (.int p2), .val (.int p3), .val (.int p4), .val (.int cs), .val (.int wd), .val (.int sd), .val (.int (1 : Int32)), .val (.int dd), .val (.long aN), .second, .val (.long a1v), .second, .val (.long a2v), .second, .val (.long kN), .second, .val (.long k1v), .second, .val (.long k2v), .second, .val (.ref b16), .val .null, s24, s25, s26, s27, .unset, .unset, .unset, .unset, .unset] [(.int (0 : Int32))])) t → Steps p.tables e below (s₁.setTop (mkF m 130 #[.val (.int p0), .val (.int p1), .val (.int p2), .val (.int p3), .val (.int p4), .val (.int cs), .val (.int wd), .val (.int sd), .val (.int (1 : Int32)), .val (.int dd), .val (.long a0v), .second, .val (.long a1v), .second, .val (.long a2v), .second, .val (.long k0v), .second, .val (.long k1v), .second, .val (.long k2v), .second, .unset, .unset, .unset, .unset, .unset, .unset, .unset, .unset, .unset, .unset, .unset] [])) t := by
          intro t k
          refine a25 t ?_
          show Steps p.tables e below (T23.setTop (mkF m 349 #[.val (.int p0), .val (.int p1), .val (.int p2), .val (.int p3), .val (.int p4), .val (.int cs), .val (.int wd), .val (.int sd), .val (.int (1 : Int32)), .val (.int dd), .val (.long aN), .second, .val (.long a1v), .second, .val (.long a2v), .second, .val (.long kN), .second, .val (.long k1v), .second, .val (.long k2v), .second, .val (.ref b16), .val .null, s24, s25, s26, s27, .unset, .unset, .unset, .unset, .unset] [(.int (lcmpW kN (0 : Int64)))])) _
          refine XS.ifYes X23.here hx rfl (pc0 := 349) (pc' := 365) rfl (hb hby at_349) rfl ((if0 _ _).trans (tlt ((lw_lt kN (0 : Int64)).mpr hc349_26)).1) (by decide) (by decide) ?_
          refine XS.iconst X23.here hx rfl (hb hby at_365) ?_
          exact k
        exact ⟨(0 : Int32), Or.inr ⟨rfl, own_not_ok (Or.inl hc349_26)⟩, a27⟩
      ·
        have a28 : ∀ t, Steps p.tables e below (T23.setTop (mkF m 358 #[.val (.int p0), .val (.int p1), .val (.int p2), .val (.int p3), .val (.int p4), .val (.int cs), .val (.int wd), .val (.int sd), .val (.int (1 : Int32)), .val (.int dd), .val (.long aN), .second, .val (.long a1v), .second, .val (.long a2v), .second, .val (.long kN), .second, .val (.long k1v), .second, .val (.long k2v), .second, .val (.ref b16), .val .null, s24, s25, s26, s27, .unset, .unset, .unset, .unset, .unset] [(.int (lcmpW kN (dd.toInt64)))])) t → Steps p.tables e below (s₁.setTop (mkF m 130 #[.val (.int p0), .val (.int p1), .val (.int p2), .val (.int p3), .val (.int p4), .val (.int cs), .val (.int wd), .val (.int sd), .val (.int (1 : Int32)), .val (.int dd), .val (.long a0v), .second, .val (.long a1v), .second, .val (.long a2v), .second, .val (.long k0v), .second, .val (.long k1v), .second, .val (.long k2v), .second, .unset, .unset, .unset, .unset, .unset, .unset, .unset, .unset, .unset, .unset, .unset] [])) t := by
          intro t k
          refine a25 t ?_
          show Steps p.tables e below (T23.setTop (mkF m 349 #[.val (.int p0), .val (.int p1), .val (.int p2), .val (.int p3), .val (.int p4), .val (.int cs), .val (.int wd), .val (.int sd), .val (.int (1 : Int32)), .val (.int dd), .val (.long aN), .second, .val (.long a1v), .second, .val (.long a2v), .second, .val (.long kN), .second, .val (.long k1v), .second, .val (.long k2v), .second, .val (.ref b16), .val .null, s24, s25, s26, s27, .unset, .unset, .unset, .unset, .unset] [(.int (lcmpW kN (0 : Int64)))])) _
          refine XS.ifNo X23.here hx rfl (hb hby at_349) rfl ((if0 _ _).trans (flt (fun q => hc349_26 ((lw_lt kN (0 : Int64)).mp q))).1) ?_
          refine XS.lload X23.here hx rfl (hb hby at_352) rfl ?_
          refine XS.iload X23.here hx rfl (hb hby at_354) rfl ?_
          refine XS.i2l X23.here hx rfl (hb hby at_356) rfl ?_
          refine XS.lcmp X23.here hx rfl (hb hby at_357) rfl ?_
          exact k
        by_cases hc358_29 : (dd.toInt64) < kN
        ·
          have a30 : ∀ t, Steps p.tables e below (T23.setTop (mkF m 366 #[.val (.int p0), .val (.int p1), .val (.int p2), .val (.int p3), .val (.int p4), .val (.int cs), .val (.int wd), .val (.int sd), .val (.int (1 : Int32)), .val (.int dd), .val (.long aN), .second, .val (.long a1v), .second, .val (.long a2v), .second, .val (.long kN), .second, .val (.long k1v), .second, .val (.long k2v), .second, .val (.ref b16), .val .null, s24, s25, s26, s27, .unset, .unset, .unset, .unset, .unset] [(.int (0 : Int32))])) t → Steps p.tables e below (s₁.setTop (mkF m 130 #[.val (.int p0), .val (.int p1), .val (.int p2), .val (.int p3), .val (.int p4), .val (.int cs), .val (.int wd), .val (.int sd), .val (.int (1 : Int32)), .val (.int dd), .val (.long a0v), .second, .val (.long a1v), .second, .val (.long a2v), .second, .val (.long k0v), .second, .val (.long k1v), .second, .val (.long k2v), .second, .unset, .unset, .unset, .unset, .unset, .unset, .unset, .unset, .unset, .unset, .unset] [])) t := by
            intro t k
            refine a28 t ?_
            show Steps p.tables e below (T23.setTop (mkF m 358 #[.val (.int p0), .val (.int p1), .val (.int p2), .val (.int p3), .val (.int p4), .val (.int cs), .val (.int wd), .val (.int sd), .val (.int (1 : Int32)), .val (.int dd), .val (.long aN), .second, .val (.long a1v), .second, .val (.long a2v), .second, .val (.long kN), .second, .val (.long k1v), .second, .val (.long k2v), .second, .val (.ref b16), .val .null, s24, s25, s26, s27, .unset, .unset, .unset, .unset, .unset] [(.int (lcmpW kN (dd.toInt64)))])) _
            refine XS.ifYes X23.here hx rfl (pc0 := 358) (pc' := 365) rfl (hb hby at_358) rfl ((if0 _ _).trans (tlt ((lw_gt kN (dd.toInt64)).mpr hc358_29)).2.2.1) (by decide) (by decide) ?_
            refine XS.iconst X23.here hx rfl (hb hby at_365) ?_
            exact k
          exact ⟨(0 : Int32), Or.inr ⟨rfl, own_not_ok (Or.inr hc358_29)⟩, a30⟩
        ·
          have a31 : ∀ t, Steps p.tables e below (T23.setTop (mkF m 366 #[.val (.int p0), .val (.int p1), .val (.int p2), .val (.int p3), .val (.int p4), .val (.int cs), .val (.int wd), .val (.int sd), .val (.int (1 : Int32)), .val (.int dd), .val (.long aN), .second, .val (.long a1v), .second, .val (.long a2v), .second, .val (.long kN), .second, .val (.long k1v), .second, .val (.long k2v), .second, .val (.ref b16), .val .null, s24, s25, s26, s27, .unset, .unset, .unset, .unset, .unset] [(.int (1 : Int32))])) t → Steps p.tables e below (s₁.setTop (mkF m 130 #[.val (.int p0), .val (.int p1), .val (.int p2), .val (.int p3), .val (.int p4), .val (.int cs), .val (.int wd), .val (.int sd), .val (.int (1 : Int32)), .val (.int dd), .val (.long a0v), .second, .val (.long a1v), .second, .val (.long a2v), .second, .val (.long k0v), .second, .val (.long k1v), .second, .val (.long k2v), .second, .unset, .unset, .unset, .unset, .unset, .unset, .unset, .unset, .unset, .unset, .unset] [])) t := by
            intro t k
            refine a28 t ?_
            show Steps p.tables e below (T23.setTop (mkF m 358 #[.val (.int p0), .val (.int p1), .val (.int p2), .val (.int p3), .val (.int p4), .val (.int cs), .val (.int wd), .val (.int sd), .val (.int (1 : Int32)), .val (.int dd), .val (.long aN), .second, .val (.long a1v), .second, .val (.long a2v), .second, .val (.long kN), .second, .val (.long k1v), .second, .val (.long k2v), .second, .val (.ref b16), .val .null, s24, s25, s26, s27, .unset, .unset, .unset, .unset, .unset] [(.int (lcmpW kN (dd.toInt64)))])) _
            refine XS.ifNo X23.here hx rfl (hb hby at_358) rfl ((if0 _ _).trans (flt (fun q => hc358_29 ((lw_gt kN (dd.toInt64)).mp q))).2.2.1) ?_
            refine XS.iconst X23.here hx rfl (hb hby at_361) ?_
            refine XS.goto X23.here hx rfl (pc0 := 362) (pc' := 366) rfl (hb hby at_362) (by decide) (by decide) ?_
            exact k
          exact ⟨(1 : Int32), Or.inl ⟨rfl, own_is_ok hc349_26 hc358_29⟩, a31⟩
    have a33 : ∀ t, Steps p.tables e below (T23.setTop (mkF m 468 #[.val (.int p0), .val (.int p1), .val (.int p2), .val (.int p3), .val (.int p4), .val (.int cs), .val (.int wd), .val (.int sd), .val (.int (1 : Int32)), .val (.int dd), .val (.long aN), .second, .val (.long a1v), .second, .val (.long a2v), .second, .val (.long kN), .second, .val (.long k1v), .second, .val (.long k2v), .second, .val (.ref b16), .val .null, .val (.int ok0), .val (.int (1 : Int32)), .val (.int (1 : Int32)), .val (.long ((kN + (0 : Int64)) + (0 : Int64))), .second, .unset, .unset, .unset, .unset] [(.int ok0)])) t → Steps p.tables e below (s₁.setTop (mkF m 130 #[.val (.int p0), .val (.int p1), .val (.int p2), .val (.int p3), .val (.int p4), .val (.int cs), .val (.int wd), .val (.int sd), .val (.int (1 : Int32)), .val (.int dd), .val (.long a0v), .second, .val (.long a1v), .second, .val (.long a2v), .second, .val (.long k0v), .second, .val (.long k1v), .second, .val (.long k2v), .second, .unset, .unset, .unset, .unset, .unset, .unset, .unset, .unset, .unset, .unset, .unset] [])) t := by
      intro t k
      refine a32 t ?_
      show Steps p.tables e below (T23.setTop (mkF m 366 #[.val (.int p0), .val (.int p1), .val (.int p2), .val (.int p3), .val (.int p4), .val (.int cs), .val (.int wd), .val (.int sd), .val (.int (1 : Int32)), .val (.int dd), .val (.long aN), .second, .val (.long a1v), .second, .val (.long a2v), .second, .val (.long kN), .second, .val (.long k1v), .second, .val (.long k2v), .second, .val (.ref b16), .val .null, s24, s25, s26, s27, .unset, .unset, .unset, .unset, .unset] [(.int ok0)])) _
      refine XS.istore X23.here hx rfl (hb hby at_366) rfl (l' := #[.val (.int p0), .val (.int p1), .val (.int p2), .val (.int p3), .val (.int p4), .val (.int cs), .val (.int wd), .val (.int sd), .val (.int (1 : Int32)), .val (.int dd), .val (.long aN), .second, .val (.long a1v), .second, .val (.long a2v), .second, .val (.long kN), .second, .val (.long k1v), .second, .val (.long k2v), .second, .val (.ref b16), .val .null, .val (.int ok0), .unset, s26, s27, .unset, .unset, .unset, .unset, .unset]) (by rcases JS24 with ⟨rfl, rfl⟩ | ⟨z, rfl, rfl⟩ <;> rfl) ?_
      refine XS.iload X23.here hx rfl (hb hby at_368) rfl ?_
      refine XS.iconst X23.here hx rfl (hb hby at_370) ?_
      refine XS.icmpYes X23.here hx rfl (pc0 := 371) (pc' := 390) rfl (hb hby at_371) rfl (tlt (by decide)).1 (by decide) (by decide) ?_
      refine XS.iconst X23.here hx rfl (hb hby at_390) ?_
      refine XS.goto X23.here hx rfl (pc0 := 391) (pc' := 395) rfl (hb hby at_391) (by decide) (by decide) ?_
      refine XS.istore X23.here hx rfl (hb hby at_395) rfl (l' := #[.val (.int p0), .val (.int p1), .val (.int p2), .val (.int p3), .val (.int p4), .val (.int cs), .val (.int wd), .val (.int sd), .val (.int (1 : Int32)), .val (.int dd), .val (.long aN), .second, .val (.long a1v), .second, .val (.long a2v), .second, .val (.long kN), .second, .val (.long k1v), .second, .val (.long k2v), .second, .val (.ref b16), .val .null, .val (.int ok0), .val (.int (1 : Int32)), s26, s27, .unset, .unset, .unset, .unset, .unset]) rfl ?_
      refine XS.iload X23.here hx rfl (hb hby at_397) rfl ?_
      refine XS.iconst X23.here hx rfl (hb hby at_399) ?_
      refine XS.icmpYes X23.here hx rfl (pc0 := 400) (pc' := 419) rfl (hb hby at_400) rfl (tlt (by decide)).1 (by decide) (by decide) ?_
      refine XS.iconst X23.here hx rfl (hb hby at_419) ?_
      refine XS.goto X23.here hx rfl (pc0 := 420) (pc' := 424) rfl (hb hby at_420) (by decide) (by decide) ?_
      refine XS.istore X23.here hx rfl (hb hby at_424) rfl (l' := #[.val (.int p0), .val (.int p1), .val (.int p2), .val (.int p3), .val (.int p4), .val (.int cs), .val (.int wd), .val (.int sd), .val (.int (1 : Int32)), .val (.int dd), .val (.long aN), .second, .val (.long a1v), .second, .val (.long a2v), .second, .val (.long kN), .second, .val (.long k1v), .second, .val (.long k2v), .second, .val (.ref b16), .val .null, .val (.int ok0), .val (.int (1 : Int32)), .val (.int (1 : Int32)), .unset, .unset, .unset, .unset, .unset, .unset]) (by rcases JS26 with ⟨rfl, rfl⟩ | ⟨z, rfl, rfl⟩ <;> rfl) ?_
      refine XS.iload X23.here hx rfl (hb hby at_426) rfl ?_
      refine XS.iconst X23.here hx rfl (hb hby at_428) ?_
      refine XS.icmpNo X23.here hx rfl (hb hby at_429) rfl (flt (by decide)).1 ?_
      refine XS.lload X23.here hx rfl (hb hby at_432) rfl ?_
      refine XS.goto X23.here hx rfl (pc0 := 434) (pc' := 438) rfl (hb hby at_434) (by decide) (by decide) ?_
      refine XS.iload X23.here hx rfl (hb hby at_438) rfl ?_
      refine XS.iconst X23.here hx rfl (hb hby at_440) ?_
      refine XS.icmpYes X23.here hx rfl (pc0 := 441) (pc' := 449) rfl (hb hby at_441) rfl (tlt (by decide)).1 (by decide) (by decide) ?_
      refine XS.lconst X23.here hx rfl (hb hby at_449) ?_
      refine XS.ladd X23.here hx rfl (hb hby at_450) rfl ?_
      refine XS.iload X23.here hx rfl (hb hby at_451) rfl ?_
      refine XS.iconst X23.here hx rfl (hb hby at_453) ?_
      refine XS.icmpYes X23.here hx rfl (pc0 := 454) (pc' := 462) rfl (hb hby at_454) rfl (tlt (by decide)).1 (by decide) (by decide) ?_
      refine XS.lconst X23.here hx rfl (hb hby at_462) ?_
      refine XS.ladd X23.here hx rfl (hb hby at_463) rfl ?_
      refine XS.lstore X23.here hx rfl (hb hby at_464) rfl (l' := #[.val (.int p0), .val (.int p1), .val (.int p2), .val (.int p3), .val (.int p4), .val (.int cs), .val (.int wd), .val (.int sd), .val (.int (1 : Int32)), .val (.int dd), .val (.long aN), .second, .val (.long a1v), .second, .val (.long a2v), .second, .val (.long kN), .second, .val (.long k1v), .second, .val (.long k2v), .second, .val (.ref b16), .val .null, .val (.int ok0), .val (.int (1 : Int32)), .val (.int (1 : Int32)), .val (.long ((kN + (0 : Int64)) + (0 : Int64))), .second, .unset, .unset, .unset, .unset]) rfl ?_
      refine XS.iload X23.here hx rfl (hb hby at_466) rfl ?_
      exact k
    by_cases hc468_34 : ok0 = (0 : Int32)
    ·
      have a35 : ∀ t, Steps p.tables e below (T23.setTop (mkF m 512 #[.val (.int p0), .val (.int p1), .val (.int p2), .val (.int p3), .val (.int p4), .val (.int cs), .val (.int wd), .val (.int sd), .val (.int (1 : Int32)), .val (.int dd), .val (.long aN), .second, .val (.long a1v), .second, .val (.long a2v), .second, .val (.long kN), .second, .val (.long k1v), .second, .val (.long k2v), .second, .val (.ref b16), .val .null, .val (.int ok0), .val (.int (1 : Int32)), .val (.int (1 : Int32)), .val (.long ((kN + (0 : Int64)) + (0 : Int64))), .second, .val (.int (0 : Int32)), .unset, .unset, .unset] [(.int (1 : Int32))])) t → Steps p.tables e below (s₁.setTop (mkF m 130 #[.val (.int p0), .val (.int p1), .val (.int p2), .val (.int p3), .val (.int p4), .val (.int cs), .val (.int wd), .val (.int sd), .val (.int (1 : Int32)), .val (.int dd), .val (.long a0v), .second, .val (.long a1v), .second, .val (.long a2v), .second, .val (.long k0v), .second, .val (.long k1v), .second, .val (.long k2v), .second, .unset, .unset, .unset, .unset, .unset, .unset, .unset, .unset, .unset, .unset, .unset] [])) t := by
        intro t k
        refine a33 t ?_
        show Steps p.tables e below (T23.setTop (mkF m 468 #[.val (.int p0), .val (.int p1), .val (.int p2), .val (.int p3), .val (.int p4), .val (.int cs), .val (.int wd), .val (.int sd), .val (.int (1 : Int32)), .val (.int dd), .val (.long aN), .second, .val (.long a1v), .second, .val (.long a2v), .second, .val (.long kN), .second, .val (.long k1v), .second, .val (.long k2v), .second, .val (.ref b16), .val .null, .val (.int ok0), .val (.int (1 : Int32)), .val (.int (1 : Int32)), .val (.long ((kN + (0 : Int64)) + (0 : Int64))), .second, .unset, .unset, .unset, .unset] [(.int ok0)])) _
        refine XS.ifYes X23.here hx rfl (pc0 := 468) (pc' := 494) rfl (hb hby at_468) rfl ((if0 _ _).trans (teq hc468_34).1) (by decide) (by decide) ?_
        refine XS.iconst X23.here hx rfl (hb hby at_494) ?_
        refine XS.istore X23.here hx rfl (hb hby at_495) rfl (l' := #[.val (.int p0), .val (.int p1), .val (.int p2), .val (.int p3), .val (.int p4), .val (.int cs), .val (.int wd), .val (.int sd), .val (.int (1 : Int32)), .val (.int dd), .val (.long aN), .second, .val (.long a1v), .second, .val (.long a2v), .second, .val (.long kN), .second, .val (.long k1v), .second, .val (.long k2v), .second, .val (.ref b16), .val .null, .val (.int ok0), .val (.int (1 : Int32)), .val (.int (1 : Int32)), .val (.long ((kN + (0 : Int64)) + (0 : Int64))), .second, .val (.int (0 : Int32)), .unset, .unset, .unset]) rfl ?_
        refine XS.iload X23.here hx rfl (hb hby at_497) rfl ?_
        refine XS.ifNo X23.here hx rfl (hb hby at_499) rfl ((if0 _ _).trans (teq (by decide)).2) ?_
        refine XS.aload X23.here hx rfl (hb hby at_502) rfl rfl ?_
        refine XS.ifnonnullNo X23.here hx rfl (hb hby at_504) rfl ?_
        refine XS.iconst X23.here hx rfl (hb hby at_507) ?_
        refine XS.goto X23.here hx rfl (pc0 := 508) (pc' := 512) rfl (hb hby at_508) (by decide) (by decide) ?_
        exact k
      obtain ⟨fs, hr, hrun, hended, hW, hsame⟩ := X23.leave (v := some (.int (1 : Int32))) (fun h => by rw [Bd.returns] at h; cases h)
      refine ⟨_, _, a35 _ ?_, hrun, hended, _, _, rfl, ?_, ⟨_, rfl⟩, hW, hsame.mono (by decide) (by decide)⟩
      · show Steps p.tables e below (T23.setTop (mkF m 512 #[.val (.int p0), .val (.int p1), .val (.int p2), .val (.int p3), .val (.int p4), .val (.int cs), .val (.int wd), .val (.int sd), .val (.int (1 : Int32)), .val (.int dd), .val (.long aN), .second, .val (.long a1v), .second, .val (.long a2v), .second, .val (.long kN), .second, .val (.long k1v), .second, .val (.long k2v), .second, .val (.ref b16), .val .null, .val (.int ok0), .val (.int (1 : Int32)), .val (.int (1 : Int32)), .val (.long ((kN + (0 : Int64)) + (0 : Int64))), .second, .val (.int (0 : Int32)), .unset, .unset, .unset] [(.int (1 : Int32))])) _
        exact retN X23 hx (t := .boolean) Bd.returns (by simp) (hb hby at_512) hr
      · show Q0 Z p0 p1 p2 p3 p4 h0 n0 _ T23.heap _
        exact ⟨rfl, N23⟩
    ·
      have a36 : ∀ t, Steps p.tables e below (T23.setTop (mkF m 512 #[.val (.int p0), .val (.int p1), .val (.int p2), .val (.int p3), .val (.int p4), .val (.int cs), .val (.int wd), .val (.int sd), .val (.int (1 : Int32)), .val (.int dd), .val (.long aN), .second, .val (.long a1v), .second, .val (.long a2v), .second, .val (.long kN), .second, .val (.long k1v), .second, .val (.long k2v), .second, .val (.ref b16), .val .null, .val (.int ok0), .val (.int (1 : Int32)), .val (.int (1 : Int32)), .val (.long ((kN + (0 : Int64)) + (0 : Int64))), .second, .val (.int (0 : Int32)), .unset, .unset, .unset] [(.int (1 : Int32))])) t → Steps p.tables e below (s₁.setTop (mkF m 130 #[.val (.int p0), .val (.int p1), .val (.int p2), .val (.int p3), .val (.int p4), .val (.int cs), .val (.int wd), .val (.int sd), .val (.int (1 : Int32)), .val (.int dd), .val (.long a0v), .second, .val (.long a1v), .second, .val (.long a2v), .second, .val (.long k0v), .second, .val (.long k1v), .second, .val (.long k2v), .second, .unset, .unset, .unset, .unset, .unset, .unset, .unset, .unset, .unset, .unset, .unset] [])) t := by
        intro t k
        refine a33 t ?_
        show Steps p.tables e below (T23.setTop (mkF m 468 #[.val (.int p0), .val (.int p1), .val (.int p2), .val (.int p3), .val (.int p4), .val (.int cs), .val (.int wd), .val (.int sd), .val (.int (1 : Int32)), .val (.int dd), .val (.long aN), .second, .val (.long a1v), .second, .val (.long a2v), .second, .val (.long kN), .second, .val (.long k1v), .second, .val (.long k2v), .second, .val (.ref b16), .val .null, .val (.int ok0), .val (.int (1 : Int32)), .val (.int (1 : Int32)), .val (.long ((kN + (0 : Int64)) + (0 : Int64))), .second, .unset, .unset, .unset, .unset] [(.int ok0)])) _
        refine XS.ifNo X23.here hx rfl (hb hby at_468) rfl ((if0 _ _).trans (feq hc468_34).1) ?_
        refine XS.iload X23.here hx rfl (hb hby at_471) rfl ?_
        refine XS.ifNo X23.here hx rfl (hb hby at_473) rfl ((if0 _ _).trans (feq (by decide)).1) ?_
        refine XS.iload X23.here hx rfl (hb hby at_476) rfl ?_
        refine XS.ifNo X23.here hx rfl (hb hby at_478) rfl ((if0 _ _).trans (feq (by decide)).1) ?_
        refine XS.lload X23.here hx rfl (hb hby at_481) rfl ?_
        refine XS.iload X23.here hx rfl (hb hby at_483) rfl ?_
        refine XS.i2l X23.here hx rfl (hb hby at_485) rfl ?_
        refine XS.lcmp X23.here hx rfl (hb hby at_486) rfl ?_
        refine XS.ifYes X23.here hx rfl (pc0 := 487) (pc' := 494) rfl (hb hby at_487) rfl ((if0 _ _).trans (feq (fun q => (fun q => G23 ⟨(own_yes JO0 hc468_34), by have e := congrArg Int64.toInt q; rw [c_i2l, own_s1 hdd (own_yes JO0 hc468_34)] at e; exact e⟩) ((lw_eq ((kN + (0 : Int64)) + (0 : Int64)) (dd.toInt64)).mp q))).2) (by decide) (by decide) ?_
        refine XS.iconst X23.here hx rfl (hb hby at_494) ?_
        refine XS.istore X23.here hx rfl (hb hby at_495) rfl (l' := #[.val (.int p0), .val (.int p1), .val (.int p2), .val (.int p3), .val (.int p4), .val (.int cs), .val (.int wd), .val (.int sd), .val (.int (1 : Int32)), .val (.int dd), .val (.long aN), .second, .val (.long a1v), .second, .val (.long a2v), .second, .val (.long kN), .second, .val (.long k1v), .second, .val (.long k2v), .second, .val (.ref b16), .val .null, .val (.int ok0), .val (.int (1 : Int32)), .val (.int (1 : Int32)), .val (.long ((kN + (0 : Int64)) + (0 : Int64))), .second, .val (.int (0 : Int32)), .unset, .unset, .unset]) rfl ?_
        refine XS.iload X23.here hx rfl (hb hby at_497) rfl ?_
        refine XS.ifNo X23.here hx rfl (hb hby at_499) rfl ((if0 _ _).trans (teq (by decide)).2) ?_
        refine XS.aload X23.here hx rfl (hb hby at_502) rfl rfl ?_
        refine XS.ifnonnullNo X23.here hx rfl (hb hby at_504) rfl ?_
        refine XS.iconst X23.here hx rfl (hb hby at_507) ?_
        refine XS.goto X23.here hx rfl (pc0 := 508) (pc' := 512) rfl (hb hby at_508) (by decide) (by decide) ?_
        exact k
      obtain ⟨fs, hr, hrun, hended, hW, hsame⟩ := X23.leave (v := some (.int (1 : Int32))) (fun h => by rw [Bd.returns] at h; cases h)
      refine ⟨_, _, a36 _ ?_, hrun, hended, _, _, rfl, ?_, ⟨_, rfl⟩, hW, hsame.mono (by decide) (by decide)⟩
      · show Steps p.tables e below (T23.setTop (mkF m 512 #[.val (.int p0), .val (.int p1), .val (.int p2), .val (.int p3), .val (.int p4), .val (.int cs), .val (.int wd), .val (.int sd), .val (.int (1 : Int32)), .val (.int dd), .val (.long aN), .second, .val (.long a1v), .second, .val (.long a2v), .second, .val (.long kN), .second, .val (.long k1v), .second, .val (.long k2v), .second, .val (.ref b16), .val .null, .val (.int ok0), .val (.int (1 : Int32)), .val (.int (1 : Int32)), .val (.long ((kN + (0 : Int64)) + (0 : Int64))), .second, .val (.int (0 : Int32)), .unset, .unset, .unset] [(.int (1 : Int32))])) _
        exact retN X23 hx (t := .boolean) Bd.returns (by simp) (hb hby at_512) hr
      · show Q0 Z p0 p1 p2 p3 p4 h0 n0 _ T23.heap _
        exact ⟨rfl, N23⟩
  ·
    have N23 := Fr.app N20 N23q
    have KK23 : Keep h0 T23.heap [] := Keep.trans K20 K23q all0
    have a37 : ∀ t, Steps p.tables e below (T23.setTop (mkF m 337 #[.val (.int p0), .val (.int p1), .val (.int p2), .val (.int p3), .val (.int p4), .val (.int cs), .val (.int wd), .val (.int sd), .val (.int (1 : Int32)), .val (.int dd), .val (.long aN), .second, .val (.long a1v), .second, .val (.long a2v), .second, .val (.long kN), .second, .val (.long k1v), .second, .val (.long k2v), .second, .val (.ref b16), .unset, s24, s25, s26, s27, .unset, .unset, .unset, .unset, .unset] [(.ref rb23)])) t → Steps p.tables e below (s₁.setTop (mkF m 130 #[.val (.int p0), .val (.int p1), .val (.int p2), .val (.int p3), .val (.int p4), .val (.int cs), .val (.int wd), .val (.int sd), .val (.int (1 : Int32)), .val (.int dd), .val (.long a0v), .second, .val (.long a1v), .second, .val (.long a2v), .second, .val (.long k0v), .second, .val (.long k1v), .second, .val (.long k2v), .second, .unset, .unset, .unset, .unset, .unset, .unset, .unset, .unset, .unset, .unset, .unset] [])) t := fun t k => a22 t (st23 t k)
    have a38 : ∀ t, Steps p.tables e below (T23.setTop (mkF m 349 #[.val (.int p0), .val (.int p1), .val (.int p2), .val (.int p3), .val (.int p4), .val (.int cs), .val (.int wd), .val (.int sd), .val (.int (1 : Int32)), .val (.int dd), .val (.long aN), .second, .val (.long a1v), .second, .val (.long a2v), .second, .val (.long kN), .second, .val (.long k1v), .second, .val (.long k2v), .second, .val (.ref b16), .val (.ref rb23), s24, s25, s26, s27, .unset, .unset, .unset, .unset, .unset] [(.int (lcmpW kN (0 : Int64)))])) t → Steps p.tables e below (s₁.setTop (mkF m 130 #[.val (.int p0), .val (.int p1), .val (.int p2), .val (.int p3), .val (.int p4), .val (.int cs), .val (.int wd), .val (.int sd), .val (.int (1 : Int32)), .val (.int dd), .val (.long a0v), .second, .val (.long a1v), .second, .val (.long a2v), .second, .val (.long k0v), .second, .val (.long k1v), .second, .val (.long k2v), .second, .unset, .unset, .unset, .unset, .unset, .unset, .unset, .unset, .unset, .unset, .unset] [])) t := by
      intro t k
      refine a37 t ?_
      show Steps p.tables e below (T23.setTop (mkF m 337 #[.val (.int p0), .val (.int p1), .val (.int p2), .val (.int p3), .val (.int p4), .val (.int cs), .val (.int wd), .val (.int sd), .val (.int (1 : Int32)), .val (.int dd), .val (.long aN), .second, .val (.long a1v), .second, .val (.long a2v), .second, .val (.long kN), .second, .val (.long k1v), .second, .val (.long k2v), .second, .val (.ref b16), .unset, s24, s25, s26, s27, .unset, .unset, .unset, .unset, .unset] [(.ref rb23)])) _
      refine XS.astore X23.here hx rfl (hb hby at_337) rfl rfl (l' := #[.val (.int p0), .val (.int p1), .val (.int p2), .val (.int p3), .val (.int p4), .val (.int cs), .val (.int wd), .val (.int sd), .val (.int (1 : Int32)), .val (.int dd), .val (.long aN), .second, .val (.long a1v), .second, .val (.long a2v), .second, .val (.long kN), .second, .val (.long k1v), .second, .val (.long k2v), .second, .val (.ref b16), .val (.ref rb23), s24, s25, s26, s27, .unset, .unset, .unset, .unset, .unset]) rfl ?_
      refine XS.iload X23.here hx rfl (hb hby at_339) rfl ?_
      refine XS.iconst X23.here hx rfl (hb hby at_341) ?_
      refine XS.icmpNo X23.here hx rfl (hb hby at_342) rfl (flt (by decide)).1 ?_
      refine XS.lload X23.here hx rfl (hb hby at_345) rfl ?_
      refine XS.lconst X23.here hx rfl (hb hby at_347) ?_
      refine XS.lcmp X23.here hx rfl (hb hby at_348) rfl ?_
      exact k
    obtain ⟨ok0, JO0, a45⟩ : ∃ (ok0 : Int32), ((ok0 = 1 ∧ OwnOk kN dd) ∨ (ok0 = 0 ∧ ¬ OwnOk kN dd)) ∧ ∀ t, Steps p.tables e below (T23.setTop (mkF m 366 #[.val (.int p0), .val (.int p1), .val (.int p2), .val (.int p3), .val (.int p4), .val (.int cs), .val (.int wd), .val (.int sd), .val (.int (1 : Int32)), .val (.int dd), .val (.long aN), .second, .val (.long a1v), .second, .val (.long a2v), .second, .val (.long kN), .second, .val (.long k1v), .second, .val (.long k2v), .second, .val (.ref b16), .val (.ref rb23), s24, s25, s26, s27, .unset, .unset, .unset, .unset, .unset] [(.int ok0)])) t → Steps p.tables e below (s₁.setTop (mkF m 130 #[.val (.int p0), .val (.int p1), .val (.int p2), .val (.int p3), .val (.int p4), .val (.int cs), .val (.int wd), .val (.int sd), .val (.int (1 : Int32)), .val (.int dd), .val (.long a0v), .second, .val (.long a1v), .second, .val (.long a2v), .second, .val (.long k0v), .second, .val (.long k1v), .second, .val (.long k2v), .second, .unset, .unset, .unset, .unset, .unset, .unset, .unset, .unset, .unset, .unset, .unset] [])) t := by
      by_cases hc349_39 : kN < (0 : Int64)
      ·
        have a40 : ∀ t, Steps p.tables e below (T23.setTop (mkF m 366 #[.val (.int p0), .val (.int p1), .val (.int p2), .val (.int p3), .val (.int p4), .val (.int cs), .val (.int wd), .val (.int sd), .val (.int (1 : Int32)), .val (.int dd), .val (.long aN), .second, .val (.long a1v), .second, .val (.long a2v), .second, .val (.long kN), .second, .val (.long k1v), .second, .val (.long k2v), .second, .val (.ref b16), .val (.ref rb23), s24, s25, s26, s27, .unset, .unset, .unset, .unset, .unset] [(.int (0 : Int32))])) t → Steps p.tables e below (s₁.setTop (mkF m 130 #[.val (.int p0), .val (.int p1), .val (.int p2), .val (.int p3), .val (.int p4), .val (.int cs), .val (.int wd), .val (.int sd), .val (.int (1 : Int32)), .val (.int dd), .val (.long a0v), .second, .val (.long a1v), .second, .val (.long a2v), .second, .val (.long k0v), .second, .val (.long k1v), .second, .val (.long k2v), .second, .unset, .unset, .unset, .unset, .unset, .unset, .unset, .unset, .unset, .unset, .unset] [])) t := by
          intro t k
          refine a38 t ?_
          show Steps p.tables e below (T23.setTop (mkF m 349 #[.val (.int p0), .val (.int p1), .val (.int p2), .val (.int p3), .val (.int p4), .val (.int cs), .val (.int wd), .val (.int sd), .val (.int (1 : Int32)), .val (.int dd), .val (.long aN), .second, .val (.long a1v), .second, .val (.long a2v), .second, .val (.long kN), .second, .val (.long k1v), .second, .val (.long k2v), .second, .val (.ref b16), .val (.ref rb23), s24, s25, s26, s27, .unset, .unset, .unset, .unset, .unset] [(.int (lcmpW kN (0 : Int64)))])) _
          refine XS.ifYes X23.here hx rfl (pc0 := 349) (pc' := 365) rfl (hb hby at_349) rfl ((if0 _ _).trans (tlt ((lw_lt kN (0 : Int64)).mpr hc349_39)).1) (by decide) (by decide) ?_
          refine XS.iconst X23.here hx rfl (hb hby at_365) ?_
          exact k
        exact ⟨(0 : Int32), Or.inr ⟨rfl, own_not_ok (Or.inl hc349_39)⟩, a40⟩
      ·
        have a41 : ∀ t, Steps p.tables e below (T23.setTop (mkF m 358 #[.val (.int p0), .val (.int p1), .val (.int p2), .val (.int p3), .val (.int p4), .val (.int cs), .val (.int wd), .val (.int sd), .val (.int (1 : Int32)), .val (.int dd), .val (.long aN), .second, .val (.long a1v), .second, .val (.long a2v), .second, .val (.long kN), .second, .val (.long k1v), .second, .val (.long k2v), .second, .val (.ref b16), .val (.ref rb23), s24, s25, s26, s27, .unset, .unset, .unset, .unset, .unset] [(.int (lcmpW kN (dd.toInt64)))])) t → Steps p.tables e below (s₁.setTop (mkF m 130 #[.val (.int p0), .val (.int p1), .val (.int p2), .val (.int p3), .val (.int p4), .val (.int cs), .val (.int wd), .val (.int sd), .val (.int (1 : Int32)), .val (.int dd), .val (.long a0v), .second, .val (.long a1v), .second, .val (.long a2v), .second, .val (.long k0v), .second, .val (.long k1v), .second, .val (.long k2v), .second, .unset, .unset, .unset, .unset, .unset, .unset, .unset, .unset, .unset, .unset, .unset] [])) t := by
          intro t k
          refine a38 t ?_
          show Steps p.tables e below (T23.setTop (mkF m 349 #[.val (.int p0), .val (.int p1), .val (.int p2), .val (.int p3), .val (.int p4), .val (.int cs), .val (.int wd), .val (.int sd), .val (.int (1 : Int32)), .val (.int dd), .val (.long aN), .second, .val (.long a1v), .second, .val (.long a2v), .second, .val (.long kN), .second, .val (.long k1v), .second, .val (.long k2v), .second, .val (.ref b16), .val (.ref rb23), s24, s25, s26, s27, .unset, .unset, .unset, .unset, .unset] [(.int (lcmpW kN (0 : Int64)))])) _
          refine XS.ifNo X23.here hx rfl (hb hby at_349) rfl ((if0 _ _).trans (flt (fun q => hc349_39 ((lw_lt kN (0 : Int64)).mp q))).1) ?_
          refine XS.lload X23.here hx rfl (hb hby at_352) rfl ?_
          refine XS.iload X23.here hx rfl (hb hby at_354) rfl ?_
          refine XS.i2l X23.here hx rfl (hb hby at_356) rfl ?_
          refine XS.lcmp X23.here hx rfl (hb hby at_357) rfl ?_
          exact k
        by_cases hc358_42 : (dd.toInt64) < kN
        ·
          have a43 : ∀ t, Steps p.tables e below (T23.setTop (mkF m 366 #[.val (.int p0), .val (.int p1), .val (.int p2), .val (.int p3), .val (.int p4), .val (.int cs), .val (.int wd), .val (.int sd), .val (.int (1 : Int32)), .val (.int dd), .val (.long aN), .second, .val (.long a1v), .second, .val (.long a2v), .second, .val (.long kN), .second, .val (.long k1v), .second, .val (.long k2v), .second, .val (.ref b16), .val (.ref rb23), s24, s25, s26, s27, .unset, .unset, .unset, .unset, .unset] [(.int (0 : Int32))])) t → Steps p.tables e below (s₁.setTop (mkF m 130 #[.val (.int p0), .val (.int p1), .val (.int p2), .val (.int p3), .val (.int p4), .val (.int cs), .val (.int wd), .val (.int sd), .val (.int (1 : Int32)), .val (.int dd), .val (.long a0v), .second, .val (.long a1v), .second, .val (.long a2v), .second, .val (.long k0v), .second, .val (.long k1v), .second, .val (.long k2v), .second, .unset, .unset, .unset, .unset, .unset, .unset, .unset, .unset, .unset, .unset, .unset] [])) t := by
            intro t k
            refine a41 t ?_
            show Steps p.tables e below (T23.setTop (mkF m 358 #[.val (.int p0), .val (.int p1), .val (.int p2), .val (.int p3), .val (.int p4), .val (.int cs), .val (.int wd), .val (.int sd), .val (.int (1 : Int32)), .val (.int dd), .val (.long aN), .second, .val (.long a1v), .second, .val (.long a2v), .second, .val (.long kN), .second, .val (.long k1v), .second, .val (.long k2v), .second, .val (.ref b16), .val (.ref rb23), s24, s25, s26, s27, .unset, .unset, .unset, .unset, .unset] [(.int (lcmpW kN (dd.toInt64)))])) _
            refine XS.ifYes X23.here hx rfl (pc0 := 358) (pc' := 365) rfl (hb hby at_358) rfl ((if0 _ _).trans (tlt ((lw_gt kN (dd.toInt64)).mpr hc358_42)).2.2.1) (by decide) (by decide) ?_
            refine XS.iconst X23.here hx rfl (hb hby at_365) ?_
            exact k
          exact ⟨(0 : Int32), Or.inr ⟨rfl, own_not_ok (Or.inr hc358_42)⟩, a43⟩
        ·
          have a44 : ∀ t, Steps p.tables e below (T23.setTop (mkF m 366 #[.val (.int p0), .val (.int p1), .val (.int p2), .val (.int p3), .val (.int p4), .val (.int cs), .val (.int wd), .val (.int sd), .val (.int (1 : Int32)), .val (.int dd), .val (.long aN), .second, .val (.long a1v), .second, .val (.long a2v), .second, .val (.long kN), .second, .val (.long k1v), .second, .val (.long k2v), .second, .val (.ref b16), .val (.ref rb23), s24, s25, s26, s27, .unset, .unset, .unset, .unset, .unset] [(.int (1 : Int32))])) t → Steps p.tables e below (s₁.setTop (mkF m 130 #[.val (.int p0), .val (.int p1), .val (.int p2), .val (.int p3), .val (.int p4), .val (.int cs), .val (.int wd), .val (.int sd), .val (.int (1 : Int32)), .val (.int dd), .val (.long a0v), .second, .val (.long a1v), .second, .val (.long a2v), .second, .val (.long k0v), .second, .val (.long k1v), .second, .val (.long k2v), .second, .unset, .unset, .unset, .unset, .unset, .unset, .unset, .unset, .unset, .unset, .unset] [])) t := by
            intro t k
            refine a41 t ?_
            show Steps p.tables e below (T23.setTop (mkF m 358 #[.val (.int p0), .val (.int p1), .val (.int p2), .val (.int p3), .val (.int p4), .val (.int cs), .val (.int wd), .val (.int sd), .val (.int (1 : Int32)), .val (.int dd), .val (.long aN), .second, .val (.long a1v), .second, .val (.long a2v), .second, .val (.long kN), .second, .val (.long k1v), .second, .val (.long k2v), .second, .val (.ref b16), .val (.ref rb23), s24, s25, s26, s27, .unset, .unset, .unset, .unset, .unset] [(.int (lcmpW kN (dd.toInt64)))])) _
            refine XS.ifNo X23.here hx rfl (hb hby at_358) rfl ((if0 _ _).trans (flt (fun q => hc358_42 ((lw_gt kN (dd.toInt64)).mp q))).2.2.1) ?_
            refine XS.iconst X23.here hx rfl (hb hby at_361) ?_
            refine XS.goto X23.here hx rfl (pc0 := 362) (pc' := 366) rfl (hb hby at_362) (by decide) (by decide) ?_
            exact k
          exact ⟨(1 : Int32), Or.inl ⟨rfl, own_is_ok hc349_39 hc358_42⟩, a44⟩
    have a46 : ∀ t, Steps p.tables e below (T23.setTop (mkF m 520 #[.val (.int p0), .val (.int p1), .val (.int p2), .val (.int p3), .val (.int p4), .val (.int cs), .val (.int wd), .val (.int sd), .val (.int (1 : Int32)), .val (.int dd), .val (.long aN), .second, .val (.long a1v), .second, .val (.long a2v), .second, .val (.long kN), .second, .val (.long k1v), .second, .val (.long k2v), .second, .val (.ref b16), .val (.ref rb23), .val (.int ok0), .val (.int (1 : Int32)), .val (.int (1 : Int32)), .val (.long ((kN + (0 : Int64)) + (0 : Int64))), .second, .val (.int (1 : Int32)), .unset, .unset, .unset] [(.ref rb23)])) t → Steps p.tables e below (s₁.setTop (mkF m 130 #[.val (.int p0), .val (.int p1), .val (.int p2), .val (.int p3), .val (.int p4), .val (.int cs), .val (.int wd), .val (.int sd), .val (.int (1 : Int32)), .val (.int dd), .val (.long a0v), .second, .val (.long a1v), .second, .val (.long a2v), .second, .val (.long k0v), .second, .val (.long k1v), .second, .val (.long k2v), .second, .unset, .unset, .unset, .unset, .unset, .unset, .unset, .unset, .unset, .unset, .unset] [])) t := by
      intro t k
      refine a45 t ?_
      show Steps p.tables e below (T23.setTop (mkF m 366 #[.val (.int p0), .val (.int p1), .val (.int p2), .val (.int p3), .val (.int p4), .val (.int cs), .val (.int wd), .val (.int sd), .val (.int (1 : Int32)), .val (.int dd), .val (.long aN), .second, .val (.long a1v), .second, .val (.long a2v), .second, .val (.long kN), .second, .val (.long k1v), .second, .val (.long k2v), .second, .val (.ref b16), .val (.ref rb23), s24, s25, s26, s27, .unset, .unset, .unset, .unset, .unset] [(.int ok0)])) _
      refine XS.istore X23.here hx rfl (hb hby at_366) rfl (l' := #[.val (.int p0), .val (.int p1), .val (.int p2), .val (.int p3), .val (.int p4), .val (.int cs), .val (.int wd), .val (.int sd), .val (.int (1 : Int32)), .val (.int dd), .val (.long aN), .second, .val (.long a1v), .second, .val (.long a2v), .second, .val (.long kN), .second, .val (.long k1v), .second, .val (.long k2v), .second, .val (.ref b16), .val (.ref rb23), .val (.int ok0), .unset, s26, s27, .unset, .unset, .unset, .unset, .unset]) (by rcases JS24 with ⟨rfl, rfl⟩ | ⟨z, rfl, rfl⟩ <;> rfl) ?_
      refine XS.iload X23.here hx rfl (hb hby at_368) rfl ?_
      refine XS.iconst X23.here hx rfl (hb hby at_370) ?_
      refine XS.icmpYes X23.here hx rfl (pc0 := 371) (pc' := 390) rfl (hb hby at_371) rfl (tlt (by decide)).1 (by decide) (by decide) ?_
      refine XS.iconst X23.here hx rfl (hb hby at_390) ?_
      refine XS.goto X23.here hx rfl (pc0 := 391) (pc' := 395) rfl (hb hby at_391) (by decide) (by decide) ?_
      refine XS.istore X23.here hx rfl (hb hby at_395) rfl (l' := #[.val (.int p0), .val (.int p1), .val (.int p2), .val (.int p3), .val (.int p4), .val (.int cs), .val (.int wd), .val (.int sd), .val (.int (1 : Int32)), .val (.int dd), .val (.long aN), .second, .val (.long a1v), .second, .val (.long a2v), .second, .val (.long kN), .second, .val (.long k1v), .second, .val (.long k2v), .second, .val (.ref b16), .val (.ref rb23), .val (.int ok0), .val (.int (1 : Int32)), s26, s27, .unset, .unset, .unset, .unset, .unset]) rfl ?_
      refine XS.iload X23.here hx rfl (hb hby at_397) rfl ?_
      refine XS.iconst X23.here hx rfl (hb hby at_399) ?_
      refine XS.icmpYes X23.here hx rfl (pc0 := 400) (pc' := 419) rfl (hb hby at_400) rfl (tlt (by decide)).1 (by decide) (by decide) ?_
      refine XS.iconst X23.here hx rfl (hb hby at_419) ?_
      refine XS.goto X23.here hx rfl (pc0 := 420) (pc' := 424) rfl (hb hby at_420) (by decide) (by decide) ?_
      refine XS.istore X23.here hx rfl (hb hby at_424) rfl (l' := #[.val (.int p0), .val (.int p1), .val (.int p2), .val (.int p3), .val (.int p4), .val (.int cs), .val (.int wd), .val (.int sd), .val (.int (1 : Int32)), .val (.int dd), .val (.long aN), .second, .val (.long a1v), .second, .val (.long a2v), .second, .val (.long kN), .second, .val (.long k1v), .second, .val (.long k2v), .second, .val (.ref b16), .val (.ref rb23), .val (.int ok0), .val (.int (1 : Int32)), .val (.int (1 : Int32)), .unset, .unset, .unset, .unset, .unset, .unset]) (by rcases JS26 with ⟨rfl, rfl⟩ | ⟨z, rfl, rfl⟩ <;> rfl) ?_
      refine XS.iload X23.here hx rfl (hb hby at_426) rfl ?_
      refine XS.iconst X23.here hx rfl (hb hby at_428) ?_
      refine XS.icmpNo X23.here hx rfl (hb hby at_429) rfl (flt (by decide)).1 ?_
      refine XS.lload X23.here hx rfl (hb hby at_432) rfl ?_
      refine XS.goto X23.here hx rfl (pc0 := 434) (pc' := 438) rfl (hb hby at_434) (by decide) (by decide) ?_
      refine XS.iload X23.here hx rfl (hb hby at_438) rfl ?_
      refine XS.iconst X23.here hx rfl (hb hby at_440) ?_
      refine XS.icmpYes X23.here hx rfl (pc0 := 441) (pc' := 449) rfl (hb hby at_441) rfl (tlt (by decide)).1 (by decide) (by decide) ?_
      refine XS.lconst X23.here hx rfl (hb hby at_449) ?_
      refine XS.ladd X23.here hx rfl (hb hby at_450) rfl ?_
      refine XS.iload X23.here hx rfl (hb hby at_451) rfl ?_
      refine XS.iconst X23.here hx rfl (hb hby at_453) ?_
      refine XS.icmpYes X23.here hx rfl (pc0 := 454) (pc' := 462) rfl (hb hby at_454) rfl (tlt (by decide)).1 (by decide) (by decide) ?_
      refine XS.lconst X23.here hx rfl (hb hby at_462) ?_
      refine XS.ladd X23.here hx rfl (hb hby at_463) rfl ?_
      refine XS.lstore X23.here hx rfl (hb hby at_464) rfl (l' := #[.val (.int p0), .val (.int p1), .val (.int p2), .val (.int p3), .val (.int p4), .val (.int cs), .val (.int wd), .val (.int sd), .val (.int (1 : Int32)), .val (.int dd), .val (.long aN), .second, .val (.long a1v), .second, .val (.long a2v), .second, .val (.long kN), .second, .val (.long k1v), .second, .val (.long k2v), .second, .val (.ref b16), .val (.ref rb23), .val (.int ok0), .val (.int (1 : Int32)), .val (.int (1 : Int32)), .val (.long ((kN + (0 : Int64)) + (0 : Int64))), .second, .unset, .unset, .unset, .unset]) rfl ?_
      refine XS.iload X23.here hx rfl (hb hby at_466) rfl ?_
      refine XS.ifNo X23.here hx rfl (hb hby at_468) rfl ((if0 _ _).trans (feq (own_one JO0 G23.1)).1) ?_
      refine XS.iload X23.here hx rfl (hb hby at_471) rfl ?_
      refine XS.ifNo X23.here hx rfl (hb hby at_473) rfl ((if0 _ _).trans (feq (by decide)).1) ?_
      refine XS.iload X23.here hx rfl (hb hby at_476) rfl ?_
      refine XS.ifNo X23.here hx rfl (hb hby at_478) rfl ((if0 _ _).trans (feq (by decide)).1) ?_
      refine XS.lload X23.here hx rfl (hb hby at_481) rfl ?_
      refine XS.iload X23.here hx rfl (hb hby at_483) rfl ?_
      refine XS.i2l X23.here hx rfl (hb hby at_485) rfl ?_
      refine XS.lcmp X23.here hx rfl (hb hby at_486) rfl ?_
      refine XS.ifNo X23.here hx rfl (hb hby at_487) rfl ((if0 _ _).trans (teq ((lw_eq ((kN + (0 : Int64)) + (0 : Int64)) (dd.toInt64)).mpr (Int64.toInt_inj.mp (by rw [c_i2l, own_s1 hdd G23.1]; exact G23.2)))).2) ?_
      refine XS.iconst X23.here hx rfl (hb hby at_490) ?_
      refine XS.goto X23.here hx rfl (pc0 := 491) (pc' := 495) rfl (hb hby at_491) (by decide) (by decide) ?_
      refine XS.istore X23.here hx rfl (hb hby at_495) rfl (l' := #[.val (.int p0), .val (.int p1), .val (.int p2), .val (.int p3), .val (.int p4), .val (.int cs), .val (.int wd), .val (.int sd), .val (.int (1 : Int32)), .val (.int dd), .val (.long aN), .second, .val (.long a1v), .second, .val (.long a2v), .second, .val (.long kN), .second, .val (.long k1v), .second, .val (.long k2v), .second, .val (.ref b16), .val (.ref rb23), .val (.int ok0), .val (.int (1 : Int32)), .val (.int (1 : Int32)), .val (.long ((kN + (0 : Int64)) + (0 : Int64))), .second, .val (.int (1 : Int32)), .unset, .unset, .unset]) rfl ?_
      refine XS.iload X23.here hx rfl (hb hby at_497) rfl ?_
      refine XS.ifYes X23.here hx rfl (pc0 := 499) (pc' := 513) rfl (hb hby at_499) rfl ((if0 _ _).trans (feq (by decide)).2) (by decide) (by decide) ?_
      refine XS.aload X23.here hx rfl (hb hby at_513) rfl rfl ?_
      refine XS.ifnullNo X23.here hx rfl (hb hby at_515) rfl ?_
      refine XS.aload X23.here hx rfl (hb hby at_518) rfl rfl ?_
      exact k
    obtain ⟨cl47, Ar47, qc47, Sz47, Nn47, Hs47, Gs47⟩ := id AR23
    have a48 : ∀ t, Steps p.tables e below (T23.setTop (mkF m 537 #[.val (.int p0), .val (.int p1), .val (.int p2), .val (.int p3), .val (.int p4), .val (.int cs), .val (.int wd), .val (.int sd), .val (.int (1 : Int32)), .val (.int dd), .val (.long aN), .second, .val (.long a1v), .second, .val (.long a2v), .second, .val (.long kN), .second, .val (.long k1v), .second, .val (.long k2v), .second, .val (.ref b16), .val (.ref rb23), .val (.int ok0), .val (.int (1 : Int32)), .val (.int (1 : Int32)), .val (.long ((kN + (0 : Int64)) + (0 : Int64))), .second, .val (.int (1 : Int32)), .unset, .unset, .unset] [(.int (0 : Int32)), (.ref rb23)])) t → Steps p.tables e below (s₁.setTop (mkF m 130 #[.val (.int p0), .val (.int p1), .val (.int p2), .val (.int p3), .val (.int p4), .val (.int cs), .val (.int wd), .val (.int sd), .val (.int (1 : Int32)), .val (.int dd), .val (.long a0v), .second, .val (.long a1v), .second, .val (.long a2v), .second, .val (.long k0v), .second, .val (.long k1v), .second, .val (.long k2v), .second, .unset, .unset, .unset, .unset, .unset, .unset, .unset, .unset, .unset, .unset, .unset] [])) t := by
      intro t k
      refine a46 t ?_
      show Steps p.tables e below (T23.setTop (mkF m 520 #[.val (.int p0), .val (.int p1), .val (.int p2), .val (.int p3), .val (.int p4), .val (.int cs), .val (.int wd), .val (.int sd), .val (.int (1 : Int32)), .val (.int dd), .val (.long aN), .second, .val (.long a1v), .second, .val (.long a2v), .second, .val (.long kN), .second, .val (.long k1v), .second, .val (.long k2v), .second, .val (.ref b16), .val (.ref rb23), .val (.int ok0), .val (.int (1 : Int32)), .val (.int (1 : Int32)), .val (.long ((kN + (0 : Int64)) + (0 : Int64))), .second, .val (.int (1 : Int32)), .unset, .unset, .unset] [(.ref rb23)])) _
      refine X23.arraylength hx Ar47.1 (State.isArrayOf_alike hZ.alike Ar47.2.1) (g := (mkF m 520 #[.val (.int p0), .val (.int p1), .val (.int p2), .val (.int p3), .val (.int p4), .val (.int cs), .val (.int wd), .val (.int sd), .val (.int (1 : Int32)), .val (.int dd), .val (.long aN), .second, .val (.long a1v), .second, .val (.long a2v), .second, .val (.long kN), .second, .val (.long k1v), .second, .val (.long k2v), .second, .val (.ref b16), .val (.ref rb23), .val (.int ok0), .val (.int (1 : Int32)), .val (.int (1 : Int32)), .val (.long ((kN + (0 : Int64)) + (0 : Int64))), .second, .val (.int (1 : Int32)), .unset, .unset, .unset] [(.ref rb23)])) rfl rfl (hb hby at_520) _ ?_
      rw [len_of Sz47 Nn47]
      refine XS.iload X23.here hx rfl (hb hby at_521) rfl ?_
      refine XS.icmpYes X23.here hx rfl (pc0 := 523) (pc' := 528) rfl (hb hby at_523) rfl (teq (by decide)).1 (by decide) (by decide) ?_
      refine XS.iload X23.here hx rfl (hb hby at_528) rfl ?_
      refine XS.iconst X23.here hx rfl (hb hby at_530) ?_
      refine XS.icmpNo X23.here hx rfl (hb hby at_531) rfl (flt (by decide)).1 ?_
      refine XS.aload X23.here hx rfl (hb hby at_534) rfl rfl ?_
      refine XS.iconst X23.here hx rfl (hb hby at_536) ?_
      exact k
    obtain ⟨cl49, Ar49, qc49, Sz49, Nn49, Hs49, Gs49⟩ := id AR23
    have hin49 : ¬ ((0 : Int32) < 0 ∨ cl49.slots.size ≤ ((0 : Int32)).toNatClampNeg) := inb_of Sz49 ⟨by decide, by decide⟩
    have hat49 := Hs49.at hin49 (v := (.double (FP.ddiv (FP.l2d kN) (FP.i2d dd)))) rfl
    have a50 : ∀ t, Steps p.tables e below (T23.setTop (mkF m 632 #[.val (.int p0), .val (.int p1), .val (.int p2), .val (.int p3), .val (.int p4), .val (.int cs), .val (.int wd), .val (.int sd), .val (.int (1 : Int32)), .val (.int dd), .val (.long aN), .second, .val (.long a1v), .second, .val (.long a2v), .second, .val (.long kN), .second, .val (.long k1v), .second, .val (.long k2v), .second, .val (.ref b16), .val (.ref rb23), .val (.int ok0), .val (.int (1 : Int32)), .val (.int (1 : Int32)), .val (.long ((kN + (0 : Int64)) + (0 : Int64))), .second, .val (.int (1 : Int32)), .val (.int (1 : Int32)), .val (.int (1 : Int32)), .val (.int (1 : Int32))] [(.int (1 : Int32))])) t → Steps p.tables e below (s₁.setTop (mkF m 130 #[.val (.int p0), .val (.int p1), .val (.int p2), .val (.int p3), .val (.int p4), .val (.int cs), .val (.int wd), .val (.int sd), .val (.int (1 : Int32)), .val (.int dd), .val (.long a0v), .second, .val (.long a1v), .second, .val (.long a2v), .second, .val (.long k0v), .second, .val (.long k1v), .second, .val (.long k2v), .second, .unset, .unset, .unset, .unset, .unset, .unset, .unset, .unset, .unset, .unset, .unset] [])) t := by
      intro t k
      refine a48 t ?_
      show Steps p.tables e below (T23.setTop (mkF m 537 #[.val (.int p0), .val (.int p1), .val (.int p2), .val (.int p3), .val (.int p4), .val (.int cs), .val (.int wd), .val (.int sd), .val (.int (1 : Int32)), .val (.int dd), .val (.long aN), .second, .val (.long a1v), .second, .val (.long a2v), .second, .val (.long kN), .second, .val (.long k1v), .second, .val (.long k2v), .second, .val (.ref b16), .val (.ref rb23), .val (.int ok0), .val (.int (1 : Int32)), .val (.int (1 : Int32)), .val (.long ((kN + (0 : Int64)) + (0 : Int64))), .second, .val (.int (1 : Int32)), .unset, .unset, .unset] [(.int (0 : Int32)), (.ref rb23)])) _
      refine X23.daload hx (j := (0 : Int32)) (v := (.double (FP.ddiv (FP.l2d kN) (FP.i2d dd)))) Ar49.1 (State.isArrayOf_alike hZ.alike Ar49.2.1) Ar49.2.2 hin49 hat49 (g := (mkF m 537 #[.val (.int p0), .val (.int p1), .val (.int p2), .val (.int p3), .val (.int p4), .val (.int cs), .val (.int wd), .val (.int sd), .val (.int (1 : Int32)), .val (.int dd), .val (.long aN), .second, .val (.long a1v), .second, .val (.long a2v), .second, .val (.long kN), .second, .val (.long k1v), .second, .val (.long k2v), .second, .val (.ref b16), .val (.ref rb23), .val (.int ok0), .val (.int (1 : Int32)), .val (.int (1 : Int32)), .val (.long ((kN + (0 : Int64)) + (0 : Int64))), .second, .val (.int (1 : Int32)), .unset, .unset, .unset] [(.int (0 : Int32)), (.ref rb23)])) rfl rfl (hb hby at_537) _ ?_
      refine XS.lload X23.here hx rfl (hb hby at_538) rfl ?_
      refine XS.l2dS X23.here hx rfl (hb hby at_540) rfl rfl ?_
      refine XS.iload X23.here hx rfl (hb hby at_541) rfl ?_
      refine XS.i2dS X23.here hx rfl (hb hby at_543) rfl rfl ?_
      refine XS.ddivS X23.here hx rfl (hb hby at_544) rfl (own_kd hdd) rfl ?_
      refine XS.dcmpS X23.here hx rfl (hb hby at_545) rfl rfl ?_
      refine XS.ifNo X23.here hx rfl (hb hby at_546) rfl ((if0 _ _).trans (teq (own_self hdd)).2) ?_
      refine XS.iconst X23.here hx rfl (hb hby at_549) ?_
      refine XS.goto X23.here hx rfl (pc0 := 550) (pc' := 554) rfl (hb hby at_550) (by decide) (by decide) ?_
      refine XS.istore X23.here hx rfl (hb hby at_554) rfl (l' := #[.val (.int p0), .val (.int p1), .val (.int p2), .val (.int p3), .val (.int p4), .val (.int cs), .val (.int wd), .val (.int sd), .val (.int (1 : Int32)), .val (.int dd), .val (.long aN), .second, .val (.long a1v), .second, .val (.long a2v), .second, .val (.long kN), .second, .val (.long k1v), .second, .val (.long k2v), .second, .val (.ref b16), .val (.ref rb23), .val (.int ok0), .val (.int (1 : Int32)), .val (.int (1 : Int32)), .val (.long ((kN + (0 : Int64)) + (0 : Int64))), .second, .val (.int (1 : Int32)), .val (.int (1 : Int32)), .unset, .unset]) rfl ?_
      refine XS.iload X23.here hx rfl (hb hby at_556) rfl ?_
      refine XS.iconst X23.here hx rfl (hb hby at_558) ?_
      refine XS.icmpYes X23.here hx rfl (pc0 := 559) (pc' := 577) rfl (hb hby at_559) rfl (tlt (by decide)).1 (by decide) (by decide) ?_
      refine XS.iconst X23.here hx rfl (hb hby at_577) ?_
      refine XS.goto X23.here hx rfl (pc0 := 578) (pc' := 582) rfl (hb hby at_578) (by decide) (by decide) ?_
      refine XS.istore X23.here hx rfl (hb hby at_582) rfl (l' := #[.val (.int p0), .val (.int p1), .val (.int p2), .val (.int p3), .val (.int p4), .val (.int cs), .val (.int wd), .val (.int sd), .val (.int (1 : Int32)), .val (.int dd), .val (.long aN), .second, .val (.long a1v), .second, .val (.long a2v), .second, .val (.long kN), .second, .val (.long k1v), .second, .val (.long k2v), .second, .val (.ref b16), .val (.ref rb23), .val (.int ok0), .val (.int (1 : Int32)), .val (.int (1 : Int32)), .val (.long ((kN + (0 : Int64)) + (0 : Int64))), .second, .val (.int (1 : Int32)), .val (.int (1 : Int32)), .val (.int (1 : Int32)), .unset]) rfl ?_
      refine XS.iload X23.here hx rfl (hb hby at_584) rfl ?_
      refine XS.iconst X23.here hx rfl (hb hby at_586) ?_
      refine XS.icmpYes X23.here hx rfl (pc0 := 587) (pc' := 605) rfl (hb hby at_587) rfl (tlt (by decide)).1 (by decide) (by decide) ?_
      refine XS.iconst X23.here hx rfl (hb hby at_605) ?_
      refine XS.goto X23.here hx rfl (pc0 := 606) (pc' := 610) rfl (hb hby at_606) (by decide) (by decide) ?_
      refine XS.istore X23.here hx rfl (hb hby at_610) rfl (l' := #[.val (.int p0), .val (.int p1), .val (.int p2), .val (.int p3), .val (.int p4), .val (.int cs), .val (.int wd), .val (.int sd), .val (.int (1 : Int32)), .val (.int dd), .val (.long aN), .second, .val (.long a1v), .second, .val (.long a2v), .second, .val (.long kN), .second, .val (.long k1v), .second, .val (.long k2v), .second, .val (.ref b16), .val (.ref rb23), .val (.int ok0), .val (.int (1 : Int32)), .val (.int (1 : Int32)), .val (.long ((kN + (0 : Int64)) + (0 : Int64))), .second, .val (.int (1 : Int32)), .val (.int (1 : Int32)), .val (.int (1 : Int32)), .val (.int (1 : Int32))]) rfl ?_
      refine XS.iload X23.here hx rfl (hb hby at_612) rfl ?_
      refine XS.ifNo X23.here hx rfl (hb hby at_614) rfl ((if0 _ _).trans (feq (by decide)).1) ?_
      refine XS.iload X23.here hx rfl (hb hby at_617) rfl ?_
      refine XS.ifNo X23.here hx rfl (hb hby at_619) rfl ((if0 _ _).trans (feq (by decide)).1) ?_
      refine XS.iload X23.here hx rfl (hb hby at_622) rfl ?_
      refine XS.ifNo X23.here hx rfl (hb hby at_624) rfl ((if0 _ _).trans (feq (by decide)).1) ?_
      refine XS.iconst X23.here hx rfl (hb hby at_627) ?_
      refine XS.goto X23.here hx rfl (pc0 := 628) (pc' := 632) rfl (hb hby at_628) (by decide) (by decide) ?_
      exact k
    obtain ⟨fs, hr, hrun, hended, hW, hsame⟩ := X23.leave (v := some (.int (1 : Int32))) (fun h => by rw [Bd.returns] at h; cases h)
    refine ⟨_, _, a50 _ ?_, hrun, hended, _, _, rfl, ?_, ⟨_, rfl⟩, hW, hsame.mono (by decide) (by decide)⟩
    · show Steps p.tables e below (T23.setTop (mkF m 632 #[.val (.int p0), .val (.int p1), .val (.int p2), .val (.int p3), .val (.int p4), .val (.int cs), .val (.int wd), .val (.int sd), .val (.int (1 : Int32)), .val (.int dd), .val (.long aN), .second, .val (.long a1v), .second, .val (.long a2v), .second, .val (.long kN), .second, .val (.long k1v), .second, .val (.long k2v), .second, .val (.ref b16), .val (.ref rb23), .val (.int ok0), .val (.int (1 : Int32)), .val (.int (1 : Int32)), .val (.long ((kN + (0 : Int64)) + (0 : Int64))), .second, .val (.int (1 : Int32)), .val (.int (1 : Int32)), .val (.int (1 : Int32)), .val (.int (1 : Int32))] [(.int (1 : Int32))])) _
      exact retN X23 hx (t := .boolean) Bd.returns (by simp) (hb hby at_632) hr
    · show Q0 Z p0 p1 p2 p3 p4 h0 n0 _ T23.heap _
      exact ⟨rfl, N23⟩
set_option maxRecDepth 65536 in
set_option maxHeartbeats 40000000 in
theorem tl2 (l : Launch) (Z : State) (a0 : Array Value) (hw : ∀ d ∈ tables_1, d.before a0 Z = true) (ws : List Jvm.Cond) (p0 : Int32) (p1 : Int32) (p2 : Int32) (p3 : Int32) (p4 : Int32) (h0 : Heap) (n0 : Nat) (Z0 : n0 ≤ h0.size) (cs wd sd dd : Int32) (a0v a1v a2v k0v k1v k2v : Int64) {p : Program} {e : Env} {s : State} {m : MethodId} {below : List Frame} {meth : Method} {c : Code} {sB : State} (Bd : BodyLoose p l x (head1 (Jvm.Cond.code x code maxLocals ret :: ws) room_1) code maxLocals ret e s m #[(.int p0), (.int p1), (.int p2), (.int p3), (.int p4)] below meth c sB) (hml : c.maxLocals = 33) (hZ : Z.Warmed39 s.vm) (s₁ : State) (Lc : List Loc) (X0 : Stand p l e room_1 s m #[(.int p0), (.int p1), (.int p2), (.int p3), (.int p4)] below meth c s₁ Lc 0 0) (e0 : s₁.heap = h0) (N0 : Fr n0 Lc) (hdd : OwnD dd) (B_a0v : -2147483648 ≤ a0v.toInt ∧ a0v.toInt ≤ 2147483648) (B_a1v : -2147483648 ≤ a1v.toInt ∧ a1v.toInt ≤ 2147483648) (B_a2v : -2147483648 ≤ a2v.toInt ∧ a2v.toInt ≤ 2147483648) (J_k0v : OwnK a0v dd k0v) (J_k1v : OwnK a1v dd k1v) (J_k2v : OwnK a2v dd k2v) :
    ∃ s₂ o, Steps p.tables e below (s₁.setTop (mkF m 130 #[.val (.int p0), .val (.int p1), .val (.int p2), .val (.int p3), .val (.int p4), .val (.int cs), .val (.int wd), .val (.int sd), .val (.int (2 : Int32)), .val (.int dd), .val (.long a0v), .second, .val (.long a1v), .second, .val (.long a2v), .second, .val (.long k0v), .second, .val (.long k1v), .second, .val (.long k2v), .second, .unset, .unset, .unset, .unset, .unset, .unset, .unset, .unset, .unset, .unset, .unset] [])) s₂ ∧ s₂.status = .running ∧ Ended s₂ below o ∧ ∃ v L, o = .returned v ∧ Q0 Z p0 p1 p2 p3 p4 h0 n0 v s₂.heap L ∧ FrameEnd s o s₂ L room_1.cells room_1.slots := by
  have hx := Bd.exec
  have hby := Bd.bytes
  have hown : s.vm.findClass "com/example/tillerfront/tillerfront/engine/ReferencePointsNearestPinLaw" = some m.cls := findClass_of_methodNamed Bd.named
  have hnm := (name_of_methodNamed Bd.named Bd.method).1
  have pre0 : ∀ t, Steps p.tables e below (s₁.setTop (mkF m 130 #[.val (.int p0), .val (.int p1), .val (.int p2), .val (.int p3), .val (.int p4), .val (.int cs), .val (.int wd), .val (.int sd), .val (.int (2 : Int32)), .val (.int dd), .val (.long a0v), .second, .val (.long a1v), .second, .val (.long a2v), .second, .val (.long k0v), .second, .val (.long k1v), .second, .val (.long k2v), .second, .unset, .unset, .unset, .unset, .unset, .unset, .unset, .unset, .unset, .unset, .unset] [])) t → Steps p.tables e below (s₁.setTop (mkF m 130 #[.val (.int p0), .val (.int p1), .val (.int p2), .val (.int p3), .val (.int p4), .val (.int cs), .val (.int wd), .val (.int sd), .val (.int (2 : Int32)), .val (.int dd), .val (.long a0v), .second, .val (.long a1v), .second, .val (.long a2v), .second, .val (.long k0v), .second, .val (.long k1v), .second, .val (.long k2v), .second, .unset, .unset, .unset, .unset, .unset, .unset, .unset, .unset, .unset, .unset, .unset] [])) t := fun t k => k
  have a1 : ∀ t, Steps p.tables e below (s₁.setTop (mkF m 132 #[.val (.int p0), .val (.int p1), .val (.int p2), .val (.int p3), .val (.int p4), .val (.int cs), .val (.int wd), .val (.int sd), .val (.int (2 : Int32)), .val (.int dd), .val (.long a0v), .second, .val (.long a1v), .second, .val (.long a2v), .second, .val (.long k0v), .second, .val (.long k1v), .second, .val (.long k2v), .second, .unset, .unset, .unset, .unset, .unset, .unset, .unset, .unset, .unset, .unset, .unset] [(.int cs)])) t → Steps p.tables e below (s₁.setTop (mkF m 130 #[.val (.int p0), .val (.int p1), .val (.int p2), .val (.int p3), .val (.int p4), .val (.int cs), .val (.int wd), .val (.int sd), .val (.int (2 : Int32)), .val (.int dd), .val (.long a0v), .second, .val (.long a1v), .second, .val (.long a2v), .second, .val (.long k0v), .second, .val (.long k1v), .second, .val (.long k2v), .second, .unset, .unset, .unset, .unset, .unset, .unset, .unset, .unset, .unset, .unset, .unset] [])) t := by
    intro t k
    refine pre0 t ?_
    show Steps p.tables e below (s₁.setTop (mkF m 130 #[.val (.int p0), .val (.int p1), .val (.int p2), .val (.int p3), .val (.int p4), .val (.int cs), .val (.int wd), .val (.int sd), .val (.int (2 : Int32)), .val (.int dd), .val (.long a0v), .second, .val (.long a1v), .second, .val (.long a2v), .second, .val (.long k0v), .second, .val (.long k1v), .second, .val (.long k2v), .second, .unset, .unset, .unset, .unset, .unset, .unset, .unset, .unset, .unset, .unset, .unset] [])) _
    refine XS.iload X0.here hx rfl (hb hby at_130) rfl ?_
    exact k
  obtain ⟨T14, LL14, aN, kN, s22, s23, s24, s25, s26, s27, X14, e14, N14, JJ, a14⟩ : ∃ (T14 : State) (LL14 : List Loc) (aN : Int64) (kN : Int64) (s22 : Slot) (s23 : Slot) (s24 : Slot) (s25 : Slot) (s26 : Slot) (s27 : Slot), Stand p l e room_1 s m #[(.int p0), (.int p1), (.int p2), (.int p3), (.int p4)] below meth c T14 LL14 0 0 ∧ T14.heap = h0 ∧ Fr n0 LL14 ∧ (OwnK aN dd kN ∧ ((s22 = .unset ∧ s23 = .unset) ∨ ∃ z, s22 = .val (.long z) ∧ s23 = .second) ∧ ((s24 = .unset ∧ s25 = .unset) ∨ ∃ z, s24 = .val (.long z) ∧ s25 = .second) ∧ ((s26 = .unset ∧ s27 = .unset) ∨ ∃ z, s26 = .val (.long z) ∧ s27 = .second)) ∧ ∀ t, Steps p.tables e below (T14.setTop (mkF m 273 #[.val (.int p0), .val (.int p1), .val (.int p2), .val (.int p3), .val (.int p4), .val (.int cs), .val (.int wd), .val (.int sd), .val (.int (2 : Int32)), .val (.int dd), .val (.long a0v), .second, .val (.long aN), .second, .val (.long a2v), .second, .val (.long k0v), .second, .val (.long kN), .second, .val (.long k2v), .second, s22, s23, s24, s25, s26, s27, .unset, .unset, .unset, .unset, .unset] [])) t → Steps p.tables e below (s₁.setTop (mkF m 130 #[.val (.int p0), .val (.int p1), .val (.int p2), .val (.int p3), .val (.int p4), .val (.int cs), .val (.int wd), .val (.int sd), .val (.int (2 : Int32)), .val (.int dd), .val (.long a0v), .second, .val (.long a1v), .second, .val (.long a2v), .second, .val (.long k0v), .second, .val (.long k1v), .second, .val (.long k2v), .second, .unset, .unset, .unset, .unset, .unset, .unset, .unset, .unset, .unset, .unset, .unset] [])) t := by
    by_cases hc132_2 : cs = (0 : Int32)
    ·
      have a3 : ∀ t, Steps p.tables e below (s₁.setTop (mkF m 273 #[.val (.int p0), .val (.int p1), .val (.int p2), .val (.int p3), .val (.int p4), .val (.int cs), .val (.int wd), .val (.int sd), .val (.int (2 : Int32)), .val (.int dd), .val (.long a0v), .second, .val (.long a1v), .second, .val (.long a2v), .second, .val (.long k0v), .second, .val (.long k1v), .second, .val (.long k2v), .second, .unset, .unset, .unset, .unset, .unset, .unset, .unset, .unset, .unset, .unset, .unset] [])) t → Steps p.tables e below (s₁.setTop (mkF m 130 #[.val (.int p0), .val (.int p1), .val (.int p2), .val (.int p3), .val (.int p4), .val (.int cs), .val (.int wd), .val (.int sd), .val (.int (2 : Int32)), .val (.int dd), .val (.long a0v), .second, .val (.long a1v), .second, .val (.long a2v), .second, .val (.long k0v), .second, .val (.long k1v), .second, .val (.long k2v), .second, .unset, .unset, .unset, .unset, .unset, .unset, .unset, .unset, .unset, .unset, .unset] [])) t := by
        intro t k
        refine a1 t ?_
        show Steps p.tables e below (s₁.setTop (mkF m 132 #[.val (.int p0), .val (.int p1), .val (.int p2), .val (.int p3), .val (.int p4), .val (.int cs), .val (.int wd), .val (.int sd), .val (.int (2 : Int32)), .val (.int dd), .val (.long a0v), .second, .val (.long a1v), .second, .val (.long a2v), .second, .val (.long k0v), .second, .val (.long k1v), .second, .val (.long k2v), .second, .unset, .unset, .unset, .unset, .unset, .unset, .unset, .unset, .unset, .unset, .unset] [(.int cs)])) _
        refine XS.ifYes X0.here hx rfl (pc0 := 132) (pc' := 273) rfl (hb hby at_132) rfl ((if0 _ _).trans (teq hc132_2).1) (by decide) (by decide) ?_
        exact k
      exact ⟨s₁, _, a1v, k1v, .unset, .unset, .unset, .unset, .unset, .unset, X0, e0, N0, ⟨J_k1v, Or.inl ⟨rfl, rfl⟩, Or.inl ⟨rfl, rfl⟩, Or.inl ⟨rfl, rfl⟩⟩, a3⟩
    ·
      have a4 : ∀ t, Steps p.tables e below (s₁.setTop (mkF m 180 #[.val (.int p0), .val (.int p1), .val (.int p2), .val (.int p3), .val (.int p4), .val (.int cs), .val (.int wd), .val (.int sd), .val (.int (2 : Int32)), .val (.int dd), .val (.long a0v), .second, .val (.long a1v), .second, .val (.long a2v), .second, .val (.long k0v), .second, .val (.long k1v), .second, .val (.long k2v), .second, .val (.long (k0v + (0 : Int64))), .second, .val (.long ((dd.toInt64) - (k0v + (0 : Int64)))), .second, .unset, .unset, .unset, .unset, .unset, .unset, .unset] [(.int (lcmpW ((dd.toInt64) - (k0v + (0 : Int64))) (0 : Int64)))])) t → Steps p.tables e below (s₁.setTop (mkF m 130 #[.val (.int p0), .val (.int p1), .val (.int p2), .val (.int p3), .val (.int p4), .val (.int cs), .val (.int wd), .val (.int sd), .val (.int (2 : Int32)), .val (.int dd), .val (.long a0v), .second, .val (.long a1v), .second, .val (.long a2v), .second, .val (.long k0v), .second, .val (.long k1v), .second, .val (.long k2v), .second, .unset, .unset, .unset, .unset, .unset, .unset, .unset, .unset, .unset, .unset, .unset] [])) t := by
        intro t k
        refine a1 t ?_
        show Steps p.tables e below (s₁.setTop (mkF m 132 #[.val (.int p0), .val (.int p1), .val (.int p2), .val (.int p3), .val (.int p4), .val (.int cs), .val (.int wd), .val (.int sd), .val (.int (2 : Int32)), .val (.int dd), .val (.long a0v), .second, .val (.long a1v), .second, .val (.long a2v), .second, .val (.long k0v), .second, .val (.long k1v), .second, .val (.long k2v), .second, .unset, .unset, .unset, .unset, .unset, .unset, .unset, .unset, .unset, .unset, .unset] [(.int cs)])) _
        refine XS.ifNo X0.here hx rfl (hb hby at_132) rfl ((if0 _ _).trans (feq hc132_2).1) ?_
        refine XS.iload X0.here hx rfl (hb hby at_135) rfl ?_
        refine XS.iconst X0.here hx rfl (hb hby at_137) ?_
        refine XS.icmpNo X0.here hx rfl (hb hby at_138) rfl (flt (by decide)).1 ?_
        refine XS.iload X0.here hx rfl (hb hby at_141) rfl ?_
        refine XS.iconst X0.here hx rfl (hb hby at_143) ?_
        refine XS.icmpNo X0.here hx rfl (hb hby at_144) rfl (flt (by decide)).1 ?_
        refine XS.lload X0.here hx rfl (hb hby at_147) rfl ?_
        refine XS.goto X0.here hx rfl (pc0 := 149) (pc' := 153) rfl (hb hby at_149) (by decide) (by decide) ?_
        refine XS.iload X0.here hx rfl (hb hby at_153) rfl ?_
        refine XS.iconst X0.here hx rfl (hb hby at_155) ?_
        refine XS.icmpYes X0.here hx rfl (pc0 := 156) (pc' := 164) rfl (hb hby at_156) rfl (tlt (by decide)).1 (by decide) (by decide) ?_
        refine XS.lconst X0.here hx rfl (hb hby at_164) ?_
        refine XS.ladd X0.here hx rfl (hb hby at_165) rfl ?_
        refine XS.lstore X0.here hx rfl (hb hby at_166) rfl (l' := #[.val (.int p0), .val (.int p1), .val (.int p2), .val (.int p3), .val (.int p4), .val (.int cs), .val (.int wd), .val (.int sd), .val (.int (2 : Int32)), .val (.int dd), .val (.long a0v), .second, .val (.long a1v), .second, .val (.long a2v), .second, .val (.long k0v), .second, .val (.long k1v), .second, .val (.long k2v), .second, .val (.long (k0v + (0 : Int64))), .second, .unset, .unset, .unset, .unset, .unset, .unset, .unset, .unset, .unset]) rfl ?_
        refine XS.iload X0.here hx rfl (hb hby at_168) rfl ?_
        refine XS.i2l X0.here hx rfl (hb hby at_170) rfl ?_
        refine XS.lload X0.here hx rfl (hb hby at_171) rfl ?_
        refine XS.lsub X0.here hx rfl (hb hby at_173) rfl ?_
        refine XS.lstore X0.here hx rfl (hb hby at_174) rfl (l' := #[.val (.int p0), .val (.int p1), .val (.int p2), .val (.int p3), .val (.int p4), .val (.int cs), .val (.int wd), .val (.int sd), .val (.int (2 : Int32)), .val (.int dd), .val (.long a0v), .second, .val (.long a1v), .second, .val (.long a2v), .second, .val (.long k0v), .second, .val (.long k1v), .second, .val (.long k2v), .second, .val (.long (k0v + (0 : Int64))), .second, .val (.long ((dd.toInt64) - (k0v + (0 : Int64)))), .second, .unset, .unset, .unset, .unset, .unset, .unset, .unset]) rfl ?_
        refine XS.lload X0.here hx rfl (hb hby at_176) rfl ?_
        refine XS.lconst X0.here hx rfl (hb hby at_178) ?_
        refine XS.lcmp X0.here hx rfl (hb hby at_179) rfl ?_
        exact k
      by_cases hc180_5 : ((dd.toInt64) - (k0v + (0 : Int64))) < (0 : Int64)
      ·
        have a6 : ∀ t, Steps p.tables e below (s₁.setTop (mkF m 273 #[.val (.int p0), .val (.int p1), .val (.int p2), .val (.int p3), .val (.int p4), .val (.int cs), .val (.int wd), .val (.int sd), .val (.int (2 : Int32)), .val (.int dd), .val (.long a0v), .second, .val (.long a1v), .second, .val (.long a2v), .second, .val (.long k0v), .second, .val (.long k1v), .second, .val (.long k2v), .second, .val (.long (k0v + (0 : Int64))), .second, .val (.long ((dd.toInt64) - (k0v + (0 : Int64)))), .second, .unset, .unset, .unset, .unset, .unset, .unset, .unset] [])) t → Steps p.tables e below (s₁.setTop (mkF m 130 #[.val (.int p0), .val (.int p1), .val (.int p2), .val (.int p3), .val (.int p4), .val (.int cs), .val (.int wd), .val (.int sd), .val (.int (2 : Int32)), .val (.int dd), .val (.long a0v), .second, .val (.long a1v), .second, .val (.long a2v), .second, .val (.long k0v), .second, .val (.long k1v), .second, .val (.long k2v), .second, .unset, .unset, .unset, .unset, .unset, .unset, .unset, .unset, .unset, .unset, .unset] [])) t := by
          intro t k
          refine a4 t ?_
          show Steps p.tables e below (s₁.setTop (mkF m 180 #[.val (.int p0), .val (.int p1), .val (.int p2), .val (.int p3), .val (.int p4), .val (.int cs), .val (.int wd), .val (.int sd), .val (.int (2 : Int32)), .val (.int dd), .val (.long a0v), .second, .val (.long a1v), .second, .val (.long a2v), .second, .val (.long k0v), .second, .val (.long k1v), .second, .val (.long k2v), .second, .val (.long (k0v + (0 : Int64))), .second, .val (.long ((dd.toInt64) - (k0v + (0 : Int64)))), .second, .unset, .unset, .unset, .unset, .unset, .unset, .unset] [(.int (lcmpW ((dd.toInt64) - (k0v + (0 : Int64))) (0 : Int64)))])) _
          refine XS.ifYes X0.here hx rfl (pc0 := 180) (pc' := 273) rfl (hb hby at_180) rfl ((if0 _ _).trans (tlt ((lw_lt ((dd.toInt64) - (k0v + (0 : Int64))) (0 : Int64)).mpr hc180_5)).1) (by decide) (by decide) ?_
          exact k
        exact ⟨s₁, _, a1v, k1v, .val (.long (k0v + (0 : Int64))), .second, .val (.long ((dd.toInt64) - (k0v + (0 : Int64)))), .second, .unset, .unset, X0, e0, N0, ⟨J_k1v, Or.inr ⟨_, rfl, rfl⟩, Or.inr ⟨_, rfl, rfl⟩, Or.inl ⟨rfl, rfl⟩⟩, a6⟩
      ·
        have a7 : ∀ t, Steps p.tables e below (s₁.setTop (mkF m 189 #[.val (.int p0), .val (.int p1), .val (.int p2), .val (.int p3), .val (.int p4), .val (.int cs), .val (.int wd), .val (.int sd), .val (.int (2 : Int32)), .val (.int dd), .val (.long a0v), .second, .val (.long a1v), .second, .val (.long a2v), .second, .val (.long k0v), .second, .val (.long k1v), .second, .val (.long k2v), .second, .val (.long (k0v + (0 : Int64))), .second, .val (.long ((dd.toInt64) - (k0v + (0 : Int64)))), .second, .unset, .unset, .unset, .unset, .unset, .unset, .unset] [(.int (lcmpW ((dd.toInt64) - (k0v + (0 : Int64))) (dd.toInt64)))])) t → Steps p.tables e below (s₁.setTop (mkF m 130 #[.val (.int p0), .val (.int p1), .val (.int p2), .val (.int p3), .val (.int p4), .val (.int cs), .val (.int wd), .val (.int sd), .val (.int (2 : Int32)), .val (.int dd), .val (.long a0v), .second, .val (.long a1v), .second, .val (.long a2v), .second, .val (.long k0v), .second, .val (.long k1v), .second, .val (.long k2v), .second, .unset, .unset, .unset, .unset, .unset, .unset, .unset, .unset, .unset, .unset, .unset] [])) t := by
          intro t k
          refine a4 t ?_
          show Steps p.tables e below (s₁.setTop (mkF m 180 #[.val (.int p0), .val (.int p1), .val (.int p2), .val (.int p3), .val (.int p4), .val (.int cs), .val (.int wd), .val (.int sd), .val (.int (2 : Int32)), .val (.int dd), .val (.long a0v), .second, .val (.long a1v), .second, .val (.long a2v), .second, .val (.long k0v), .second, .val (.long k1v), .second, .val (.long k2v), .second, .val (.long (k0v + (0 : Int64))), .second, .val (.long ((dd.toInt64) - (k0v + (0 : Int64)))), .second, .unset, .unset, .unset, .unset, .unset, .unset, .unset] [(.int (lcmpW ((dd.toInt64) - (k0v + (0 : Int64))) (0 : Int64)))])) _
          refine XS.ifNo X0.here hx rfl (hb hby at_180) rfl ((if0 _ _).trans (flt (fun q => hc180_5 ((lw_lt ((dd.toInt64) - (k0v + (0 : Int64))) (0 : Int64)).mp q))).1) ?_
          refine XS.lload X0.here hx rfl (hb hby at_183) rfl ?_
          refine XS.iload X0.here hx rfl (hb hby at_185) rfl ?_
          refine XS.i2l X0.here hx rfl (hb hby at_187) rfl ?_
          refine XS.lcmp X0.here hx rfl (hb hby at_188) rfl ?_
          exact k
        by_cases hc189_8 : (dd.toInt64) < ((dd.toInt64) - (k0v + (0 : Int64)))
        ·
          have a9 : ∀ t, Steps p.tables e below (s₁.setTop (mkF m 273 #[.val (.int p0), .val (.int p1), .val (.int p2), .val (.int p3), .val (.int p4), .val (.int cs), .val (.int wd), .val (.int sd), .val (.int (2 : Int32)), .val (.int dd), .val (.long a0v), .second, .val (.long a1v), .second, .val (.long a2v), .second, .val (.long k0v), .second, .val (.long k1v), .second, .val (.long k2v), .second, .val (.long (k0v + (0 : Int64))), .second, .val (.long ((dd.toInt64) - (k0v + (0 : Int64)))), .second, .unset, .unset, .unset, .unset, .unset, .unset, .unset] [])) t → Steps p.tables e below (s₁.setTop (mkF m 130 #[.val (.int p0), .val (.int p1), .val (.int p2), .val (.int p3), .val (.int p4), .val (.int cs), .val (.int wd), .val (.int sd), .val (.int (2 : Int32)), .val (.int dd), .val (.long a0v), .second, .val (.long a1v), .second, .val (.long a2v), .second, .val (.long k0v), .second, .val (.long k1v), .second, .val (.long k2v), .second, .unset, .unset, .unset, .unset, .unset, .unset, .unset, .unset, .unset, .unset, .unset] [])) t := by
            intro t k
            refine a7 t ?_
            show Steps p.tables e below (s₁.setTop (mkF m 189 #[.val (.int p0), .val (.int p1), .val (.int p2), .val (.int p3), .val (.int p4), .val (.int cs), .val (.int wd), .val (.int sd), .val (.int (2 : Int32)), .val (.int dd), .val (.long a0v), .second, .val (.long a1v), .second, .val (.long a2v), .second, .val (.long k0v), .second, .val (.long k1v), .second, .val (.long k2v), .second, .val (.long (k0v + (0 : Int64))), .second, .val (.long ((dd.toInt64) - (k0v + (0 : Int64)))), .second, .unset, .unset, .unset, .unset, .unset, .unset, .unset] [(.int (lcmpW ((dd.toInt64) - (k0v + (0 : Int64))) (dd.toInt64)))])) _
            refine XS.ifYes X0.here hx rfl (pc0 := 189) (pc' := 273) rfl (hb hby at_189) rfl ((if0 _ _).trans (tlt ((lw_gt ((dd.toInt64) - (k0v + (0 : Int64))) (dd.toInt64)).mpr hc189_8)).2.2.1) (by decide) (by decide) ?_
            exact k
          exact ⟨s₁, _, a1v, k1v, .val (.long (k0v + (0 : Int64))), .second, .val (.long ((dd.toInt64) - (k0v + (0 : Int64)))), .second, .unset, .unset, X0, e0, N0, ⟨J_k1v, Or.inr ⟨_, rfl, rfl⟩, Or.inr ⟨_, rfl, rfl⟩, Or.inl ⟨rfl, rfl⟩⟩, a9⟩
        ·
          have a10 : ∀ t, Steps p.tables e below (s₁.setTop (mkF m 250 #[.val (.int p0), .val (.int p1), .val (.int p2), .val (.int p3), .val (.int p4), .val (.int cs), .val (.int wd), .val (.int sd), .val (.int (2 : Int32)), .val (.int dd), .val (.long a0v), .second, .val (.long ((((1024 : Int64) * ((dd.toInt64) - (k0v + (0 : Int64)))) + ((dd / (2 : Int32)).toInt64)) / (dd.toInt64))), .second, .val (.long a2v), .second, .val (.long k0v), .second, .val (.long k1v), .second, .val (.long k2v), .second, .val (.long (k0v + (0 : Int64))), .second, .val (.long ((dd.toInt64) - (k0v + (0 : Int64)))), .second, .val (.long ((((1024 : Int64) * ((dd.toInt64) - (k0v + (0 : Int64)))) + ((dd / (2 : Int32)).toInt64)) / (dd.toInt64))), .second, .unset, .unset, .unset, .unset, .unset] [(.long (((((1024 : Int64) * ((dd.toInt64) - (k0v + (0 : Int64)))) + ((dd / (2 : Int32)).toInt64)) / (dd.toInt64)) * (dd.toInt64)))])) t → Steps p.tables e below (s₁.setTop (mkF m 130 #[.val (.int p0), .val (.int p1), .val (.int p2), .val (.int p3), .val (.int p4), .val (.int cs), .val (.int wd), .val (.int sd), .val (.int (2 : Int32)), .val (.int dd), .val (.long a0v), .second, .val (.long a1v), .second, .val (.long a2v), .second, .val (.long k0v), .second, .val (.long k1v), .second, .val (.long k2v), .second, .unset, .unset, .unset, .unset, .unset, .unset, .unset, .unset, .unset, .unset, .unset] [])) t := by
            intro t k
            refine a7 t ?_
            show Steps p.tables e below (s₁.setTop (mkF m 189 #[.val (.int p0), .val (.int p1), .val (.int p2), .val (.int p3), .val (.int p4), .val (.int cs), .val (.int wd), .val (.int sd), .val (.int (2 : Int32)), .val (.int dd), .val (.long a0v), .second, .val (.long a1v), .second, .val (.long a2v), .second, .val (.long k0v), .second, .val (.long k1v), .second, .val (.long k2v), .second, .val (.long (k0v + (0 : Int64))), .second, .val (.long ((dd.toInt64) - (k0v + (0 : Int64)))), .second, .unset, .unset, .unset, .unset, .unset, .unset, .unset] [(.int (lcmpW ((dd.toInt64) - (k0v + (0 : Int64))) (dd.toInt64)))])) _
            refine XS.ifNo X0.here hx rfl (hb hby at_189) rfl ((if0 _ _).trans (flt (fun q => hc189_8 ((lw_gt ((dd.toInt64) - (k0v + (0 : Int64))) (dd.toInt64)).mp q))).2.2.1) ?_
            refine X0.ldc2Long hx hown (mvT hZ (hw _ (List.mem_of_getElem? (i := 10) rfl))) (g := (mkF m 192 #[.val (.int p0), .val (.int p1), .val (.int p2), .val (.int p3), .val (.int p4), .val (.int cs), .val (.int wd), .val (.int sd), .val (.int (2 : Int32)), .val (.int dd), .val (.long a0v), .second, .val (.long a1v), .second, .val (.long a2v), .second, .val (.long k0v), .second, .val (.long k1v), .second, .val (.long k2v), .second, .val (.long (k0v + (0 : Int64))), .second, .val (.long ((dd.toInt64) - (k0v + (0 : Int64)))), .second, .unset, .unset, .unset, .unset, .unset, .unset, .unset] [])) rfl (hb hby at_192) _ ?_
            refine XS.lload X0.here hx rfl (hb hby at_195) rfl ?_
            refine XS.lmul X0.here hx rfl (hb hby at_197) rfl ?_
            refine XS.iload X0.here hx rfl (hb hby at_198) rfl ?_
            refine XS.iconst X0.here hx rfl (hb hby at_200) ?_
            refine XS.idiv X0.here hx rfl (hb hby at_201) rfl (by decide) ?_
            refine XS.i2l X0.here hx rfl (hb hby at_202) rfl ?_
            refine XS.ladd X0.here hx rfl (hb hby at_203) rfl ?_
            refine XS.iload X0.here hx rfl (hb hby at_204) rfl ?_
            refine XS.i2l X0.here hx rfl (hb hby at_206) rfl ?_
            refine XS.ldiv X0.here hx rfl (hb hby at_207) rfl (own_nzd hdd) ?_
            refine XS.lstore X0.here hx rfl (hb hby at_208) rfl (l' := #[.val (.int p0), .val (.int p1), .val (.int p2), .val (.int p3), .val (.int p4), .val (.int cs), .val (.int wd), .val (.int sd), .val (.int (2 : Int32)), .val (.int dd), .val (.long a0v), .second, .val (.long a1v), .second, .val (.long a2v), .second, .val (.long k0v), .second, .val (.long k1v), .second, .val (.long k2v), .second, .val (.long (k0v + (0 : Int64))), .second, .val (.long ((dd.toInt64) - (k0v + (0 : Int64)))), .second, .val (.long ((((1024 : Int64) * ((dd.toInt64) - (k0v + (0 : Int64)))) + ((dd / (2 : Int32)).toInt64)) / (dd.toInt64))), .second, .unset, .unset, .unset, .unset, .unset]) rfl ?_
            refine XS.iload X0.here hx rfl (hb hby at_210) rfl ?_
            refine XS.iconst X0.here hx rfl (hb hby at_212) ?_
            refine XS.icmpYes X0.here hx rfl (pc0 := 213) (pc' := 234) rfl (hb hby at_213) rfl (feq (by decide)).2 (by decide) (by decide) ?_
            refine XS.iload X0.here hx rfl (hb hby at_234) rfl ?_
            refine XS.iconst X0.here hx rfl (hb hby at_236) ?_
            refine XS.icmpNo X0.here hx rfl (hb hby at_237) rfl (teq (by decide)).2 ?_
            refine XS.lload X0.here hx rfl (hb hby at_240) rfl ?_
            refine XS.lstore X0.here hx rfl (hb hby at_242) rfl (l' := #[.val (.int p0), .val (.int p1), .val (.int p2), .val (.int p3), .val (.int p4), .val (.int cs), .val (.int wd), .val (.int sd), .val (.int (2 : Int32)), .val (.int dd), .val (.long a0v), .second, .val (.long ((((1024 : Int64) * ((dd.toInt64) - (k0v + (0 : Int64)))) + ((dd / (2 : Int32)).toInt64)) / (dd.toInt64))), .second, .val (.long a2v), .second, .val (.long k0v), .second, .val (.long k1v), .second, .val (.long k2v), .second, .val (.long (k0v + (0 : Int64))), .second, .val (.long ((dd.toInt64) - (k0v + (0 : Int64)))), .second, .val (.long ((((1024 : Int64) * ((dd.toInt64) - (k0v + (0 : Int64)))) + ((dd / (2 : Int32)).toInt64)) / (dd.toInt64))), .second, .unset, .unset, .unset, .unset, .unset]) rfl ?_
            refine XS.lload X0.here hx rfl (hb hby at_244) rfl ?_
            refine XS.iload X0.here hx rfl (hb hby at_246) rfl ?_
            refine XS.i2l X0.here hx rfl (hb hby at_248) rfl ?_
            refine XS.lmul X0.here hx rfl (hb hby at_249) rfl ?_
            exact k
          obtain ⟨_, _, ⟨T11, L11, k11, n11⟩, -, X11, ⟨Lc11, hQ11, l11, y11, z11⟩, st11⟩ := Jvm.LawKit.callS X0 hx (y := (⟨"com/example/tillerfront/tillerfront/engine/ReferencePointsNearestPinLaw", "rnd", "(J)J"⟩ : MethodName)) hown (mvT hZ (hw _ (List.mem_of_getElem? (i := 5) rfl))) (mvT hZ (hw _ (List.mem_of_getElem? (i := 6) rfl))) (mvT hZ (hw _ (List.mem_of_getElem? (i := 3) rfl))) (mvT hZ (hw _ (List.mem_of_getElem? (i := 7) rfl))) (by decide) (backOf (W := 0) (rmR l Z a0 hw [] (((((1024 : Int64) * ((dd.toInt64) - (k0v + (0 : Int64)))) + ((dd / (2 : Int32)).toInt64)) / (dd.toInt64)) * (dd.toInt64)) h0 n0 Z0 (by rw [own_lmul (own_a hdd hc180_5 hc189_8) hdd]; have := own_prod_bd (own_a hdd hc180_5 hc189_8) hdd; omega)) hZ (hw _ (List.mem_of_getElem? (i := 7) rfl)) (hw _ (List.mem_of_getElem? (i := 3) rfl)) (by decide) (by decide)) (g := (mkF m 250 #[.val (.int p0), .val (.int p1), .val (.int p2), .val (.int p3), .val (.int p4), .val (.int cs), .val (.int wd), .val (.int sd), .val (.int (2 : Int32)), .val (.int dd), .val (.long a0v), .second, .val (.long ((((1024 : Int64) * ((dd.toInt64) - (k0v + (0 : Int64)))) + ((dd / (2 : Int32)).toInt64)) / (dd.toInt64))), .second, .val (.long a2v), .second, .val (.long k0v), .second, .val (.long k1v), .second, .val (.long k2v), .second, .val (.long (k0v + (0 : Int64))), .second, .val (.long ((dd.toInt64) - (k0v + (0 : Int64)))), .second, .val (.long ((((1024 : Int64) * ((dd.toInt64) - (k0v + (0 : Int64)))) + ((dd / (2 : Int32)).toInt64)) / (dd.toInt64))), .second, .unset, .unset, .unset, .unset, .unset] [(.long (((((1024 : Int64) * ((dd.toInt64) - (k0v + (0 : Int64)))) + ((dd / (2 : Int32)).toInt64)) / (dd.toInt64)) * (dd.toInt64)))])) rfl (by rw [hml]; rfl) (argsL := [(.long (((((1024 : Int64) * ((dd.toInt64) - (k0v + (0 : Int64)))) + ((dd / (2 : Int32)).toInt64)) / (dd.toInt64)) * (dd.toInt64)))]) (rest := []) (lenOf own_pd2 rfl) rfl (by show 2 * 0 + _ ≤ _; exact Nat.le_of_eq rfl) (hb hby at_250) (fun _ _ => ⟨rfl, e0, (by decide : 0 + 0 ≤ _), (by decide : 0 + 0 ≤ _)⟩)
          dsimp only [Pt.U, Pt.locs, Pt.cells, Pt.slots] at X11 l11 y11 z11 st11 hQ11
          subst l11 y11 z11
          obtain ⟨kN2, rfl, R_kN2, N11q, e11q⟩ := hQ11
          have N11 := Fr.app N0 N11q
          have J_kN2 : OwnK ((((1024 : Int64) * ((dd.toInt64) - (k0v + (0 : Int64)))) + ((dd / (2 : Int32)).toInt64)) / (dd.toInt64)) dd kN2 := ⟨(own_a hdd hc180_5 hc189_8), by rw [R_kN2, own_lmul (own_a hdd hc180_5 hc189_8) hdd]⟩
          have a12 : ∀ t, Steps p.tables e below (T11.setTop (mkF m 253 #[.val (.int p0), .val (.int p1), .val (.int p2), .val (.int p3), .val (.int p4), .val (.int cs), .val (.int wd), .val (.int sd), .val (.int (2 : Int32)), .val (.int dd), .val (.long a0v), .second, .val (.long ((((1024 : Int64) * ((dd.toInt64) - (k0v + (0 : Int64)))) + ((dd / (2 : Int32)).toInt64)) / (dd.toInt64))), .second, .val (.long a2v), .second, .val (.long k0v), .second, .val (.long k1v), .second, .val (.long k2v), .second, .val (.long (k0v + (0 : Int64))), .second, .val (.long ((dd.toInt64) - (k0v + (0 : Int64)))), .second, .val (.long ((((1024 : Int64) * ((dd.toInt64) - (k0v + (0 : Int64)))) + ((dd / (2 : Int32)).toInt64)) / (dd.toInt64))), .second, .unset, .unset, .unset, .unset, .unset] [(.long kN2)])) t → Steps p.tables e below (s₁.setTop (mkF m 130 #[.val (.int p0), .val (.int p1), .val (.int p2), .val (.int p3), .val (.int p4), .val (.int cs), .val (.int wd), .val (.int sd), .val (.int (2 : Int32)), .val (.int dd), .val (.long a0v), .second, .val (.long a1v), .second, .val (.long a2v), .second, .val (.long k0v), .second, .val (.long k1v), .second, .val (.long k2v), .second, .unset, .unset, .unset, .unset, .unset, .unset, .unset, .unset, .unset, .unset, .unset] [])) t := fun t k => a10 t (st11 t k)
          have a13 : ∀ t, Steps p.tables e below (T11.setTop (mkF m 273 #[.val (.int p0), .val (.int p1), .val (.int p2), .val (.int p3), .val (.int p4), .val (.int cs), .val (.int wd), .val (.int sd), .val (.int (2 : Int32)), .val (.int dd), .val (.long a0v), .second, .val (.long ((((1024 : Int64) * ((dd.toInt64) - (k0v + (0 : Int64)))) + ((dd / (2 : Int32)).toInt64)) / (dd.toInt64))), .second, .val (.long a2v), .second, .val (.long k0v), .second, .val (.long kN2), .second, .val (.long k2v), .second, .val (.long (k0v + (0 : Int64))), .second, .val (.long ((dd.toInt64) - (k0v + (0 : Int64)))), .second, .val (.long ((((1024 : Int64) * ((dd.toInt64) - (k0v + (0 : Int64)))) + ((dd / (2 : Int32)).toInt64)) / (dd.toInt64))), .second, .unset, .unset, .unset, .unset, .unset] [])) t → Steps p.tables e below (s₁.setTop (mkF m 130 #[.val (.int p0), .val (.int p1), .val (.int p2), .val (.int p3), .val (.int p4), .val (.int cs), .val (.int wd), .val (.int sd), .val (.int (2 : Int32)), .val (.int dd), .val (.long a0v), .second, .val (.long a1v), .second, .val (.long a2v), .second, .val (.long k0v), .second, .val (.long k1v), .second, .val (.long k2v), .second, .unset, .unset, .unset, .unset, .unset, .unset, .unset, .unset, .unset, .unset, .unset] [])) t := by
            intro t k
            refine a12 t ?_
            show Steps p.tables e below (T11.setTop (mkF m 253 #[.val (.int p0), .val (.int p1), .val (.int p2), .val (.int p3), .val (.int p4), .val (.int cs), .val (.int wd), .val (.int sd), .val (.int (2 : Int32)), .val (.int dd), .val (.long a0v), .second, .val (.long ((((1024 : Int64) * ((dd.toInt64) - (k0v + (0 : Int64)))) + ((dd / (2 : Int32)).toInt64)) / (dd.toInt64))), .second, .val (.long a2v), .second, .val (.long k0v), .second, .val (.long k1v), .second, .val (.long k2v), .second, .val (.long (k0v + (0 : Int64))), .second, .val (.long ((dd.toInt64) - (k0v + (0 : Int64)))), .second, .val (.long ((((1024 : Int64) * ((dd.toInt64) - (k0v + (0 : Int64)))) + ((dd / (2 : Int32)).toInt64)) / (dd.toInt64))), .second, .unset, .unset, .unset, .unset, .unset] [(.long kN2)])) _
            refine XS.lstore X11.here hx rfl (hb hby at_253) rfl (l' := #[.val (.int p0), .val (.int p1), .val (.int p2), .val (.int p3), .val (.int p4), .val (.int cs), .val (.int wd), .val (.int sd), .val (.int (2 : Int32)), .val (.int dd), .val (.long a0v), .second, .val (.long ((((1024 : Int64) * ((dd.toInt64) - (k0v + (0 : Int64)))) + ((dd / (2 : Int32)).toInt64)) / (dd.toInt64))), .second, .val (.long a2v), .second, .val (.long k0v), .second, .val (.long kN2), .second, .val (.long k2v), .second, .val (.long (k0v + (0 : Int64))), .second, .val (.long ((dd.toInt64) - (k0v + (0 : Int64)))), .second, .val (.long ((((1024 : Int64) * ((dd.toInt64) - (k0v + (0 : Int64)))) + ((dd / (2 : Int32)).toInt64)) / (dd.toInt64))), .second, .unset, .unset, .unset, .unset, .unset]) rfl ?_
            refine XS.goto X11.here hx rfl (pc0 := 255) (pc' := 273) rfl (hb hby at_255) (by decide) (by decide) ?_
            exact k
          exact ⟨T11, _, ((((1024 : Int64) * ((dd.toInt64) - (k0v + (0 : Int64)))) + ((dd / (2 : Int32)).toInt64)) / (dd.toInt64)), kN2, .val (.long (k0v + (0 : Int64))), .second, .val (.long ((dd.toInt64) - (k0v + (0 : Int64)))), .second, .val (.long ((((1024 : Int64) * ((dd.toInt64) - (k0v + (0 : Int64)))) + ((dd / (2 : Int32)).toInt64)) / (dd.toInt64))), .second, X11, e11q, N11, ⟨J_kN2, Or.inr ⟨_, rfl, rfl⟩, Or.inr ⟨_, rfl, rfl⟩, Or.inr ⟨_, rfl, rfl⟩⟩, a13⟩
  obtain ⟨J_kN, JS22, JS24, JS26⟩ := JJ
  have a15 : ∀ t, Steps p.tables e below (T14.setTop (mkF m 275 #[.val (.int p0), .val (.int p1), .val (.int p2), .val (.int p3), .val (.int p4), .val (.int cs), .val (.int wd), .val (.int sd), .val (.int (2 : Int32)), .val (.int dd), .val (.long a0v), .second, .val (.long aN), .second, .val (.long a2v), .second, .val (.long k0v), .second, .val (.long kN), .second, .val (.long k2v), .second, s22, s23, s24, s25, s26, s27, .unset, .unset, .unset, .unset, .unset] [(.int (2 : Int32))])) t → Steps p.tables e below (s₁.setTop (mkF m 130 #[.val (.int p0), .val (.int p1), .val (.int p2), .val (.int p3), .val (.int p4), .val (.int cs), .val (.int wd), .val (.int sd), .val (.int (2 : Int32)), .val (.int dd), .val (.long a0v), .second, .val (.long a1v), .second, .val (.long a2v), .second, .val (.long k0v), .second, .val (.long k1v), .second, .val (.long k2v), .second, .unset, .unset, .unset, .unset, .unset, .unset, .unset, .unset, .unset, .unset, .unset] [])) t := by
    intro t k
    refine a14 t ?_
    show Steps p.tables e below (T14.setTop (mkF m 273 #[.val (.int p0), .val (.int p1), .val (.int p2), .val (.int p3), .val (.int p4), .val (.int cs), .val (.int wd), .val (.int sd), .val (.int (2 : Int32)), .val (.int dd), .val (.long a0v), .second, .val (.long aN), .second, .val (.long a2v), .second, .val (.long k0v), .second, .val (.long kN), .second, .val (.long k2v), .second, s22, s23, s24, s25, s26, s27, .unset, .unset, .unset, .unset, .unset] [])) _
    refine XS.iload X14.here hx rfl (hb hby at_273) rfl ?_
    exact k
  obtain ⟨T16, h16, kk16, X16, e16, E16, A16, st16⟩ := newP X14 hx hZ (hw _ (List.mem_of_getElem? (i := 11) rfl)) e14 (g := (mkF m 275 #[.val (.int p0), .val (.int p1), .val (.int p2), .val (.int p3), .val (.int p4), .val (.int cs), .val (.int wd), .val (.int sd), .val (.int (2 : Int32)), .val (.int dd), .val (.long a0v), .second, .val (.long aN), .second, .val (.long a2v), .second, .val (.long k0v), .second, .val (.long kN), .second, .val (.long k2v), .second, s22, s23, s24, s25, s26, s27, .unset, .unset, .unset, .unset, .unset] [(.int (2 : Int32))])) rfl (hb hby at_275) rfl (by decide) (cap := 2) (by decide) (by decide) (by decide) (by decide)
  obtain ⟨b16, g16⟩ : ∃ z, z = h0.size := ⟨_, rfl⟩
  rw [← g16] at A16 st16
  have g_b16 : n0 ≤ b16 := Nat.le_trans Z0 (Nat.le_of_eq g16.symm)
  have sz_b16 : h0.size ≤ b16 := Nat.le_trans ((Keep.refl h0 [])).1 (Nat.le_of_eq g16.symm)
  have V_b16 : Arv Z h16 b16 kk16 .double (2 : Int32) [(.double (0 : UInt64)), (.double (0 : UInt64))] (.double (0 : UInt64)) := (Arv.new A16 (by decide)).pad (pad_rep [] (.double (0 : UInt64)) 2)
  have K16 : Keep h0 h16 [] := Keep.ext (Keep.refl h0 []) E16
  have a17 : ∀ t, Steps p.tables e below (T16.setTop (mkF m 277 #[.val (.int p0), .val (.int p1), .val (.int p2), .val (.int p3), .val (.int p4), .val (.int cs), .val (.int wd), .val (.int sd), .val (.int (2 : Int32)), .val (.int dd), .val (.long a0v), .second, .val (.long aN), .second, .val (.long a2v), .second, .val (.long k0v), .second, .val (.long kN), .second, .val (.long k2v), .second, s22, s23, s24, s25, s26, s27, .unset, .unset, .unset, .unset, .unset] [(.ref b16)])) t → Steps p.tables e below (s₁.setTop (mkF m 130 #[.val (.int p0), .val (.int p1), .val (.int p2), .val (.int p3), .val (.int p4), .val (.int cs), .val (.int wd), .val (.int sd), .val (.int (2 : Int32)), .val (.int dd), .val (.long a0v), .second, .val (.long a1v), .second, .val (.long a2v), .second, .val (.long k0v), .second, .val (.long k1v), .second, .val (.long k2v), .second, .unset, .unset, .unset, .unset, .unset, .unset, .unset, .unset, .unset, .unset, .unset] [])) t := fun t k => a15 t (st16 t k)
  have a18 : ∀ t, Steps p.tables e below (T16.setTop (mkF m 295 #[.val (.int p0), .val (.int p1), .val (.int p2), .val (.int p3), .val (.int p4), .val (.int cs), .val (.int wd), .val (.int sd), .val (.int (2 : Int32)), .val (.int dd), .val (.long a0v), .second, .val (.long aN), .second, .val (.long a2v), .second, .val (.long k0v), .second, .val (.long kN), .second, .val (.long k2v), .second, .val (.ref b16), .unset, s24, s25, s26, s27, .unset, .unset, .unset, .unset, .unset] [(.double (FP.ddiv (FP.l2d a0v) (4652218415073722368 : UInt64))), (.int (0 : Int32)), (.ref b16)])) t → Steps p.tables e below (s₁.setTop (mkF m 130 #[.val (.int p0), .val (.int p1), .val (.int p2), .val (.int p3), .val (.int p4), .val (.int cs), .val (.int wd), .val (.int sd), .val (.int (2 : Int32)), .val (.int dd), .val (.long a0v), .second, .val (.long a1v), .second, .val (.long a2v), .second, .val (.long k0v), .second, .val (.long k1v), .second, .val (.long k2v), .second, .unset, .unset, .unset, .unset, .unset, .unset, .unset, .unset, .unset, .unset, .unset] [])) t := by
    intro t k
    refine a17 t ?_
    show Steps p.tables e below (T16.setTop (mkF m 277 #[.val (.int p0), .val (.int p1), .val (.int p2), .val (.int p3), .val (.int p4), .val (.int cs), .val (.int wd), .val (.int sd), .val (.int (2 : Int32)), .val (.int dd), .val (.long a0v), .second, .val (.long aN), .second, .val (.long a2v), .second, .val (.long k0v), .second, .val (.long kN), .second, .val (.long k2v), .second, s22, s23, s24, s25, s26, s27, .unset, .unset, .unset, .unset, .unset] [(.ref b16)])) _
    refine XS.astore X16.here hx rfl (hb hby at_277) rfl rfl (l' := #[.val (.int p0), .val (.int p1), .val (.int p2), .val (.int p3), .val (.int p4), .val (.int cs), .val (.int wd), .val (.int sd), .val (.int (2 : Int32)), .val (.int dd), .val (.long a0v), .second, .val (.long aN), .second, .val (.long a2v), .second, .val (.long k0v), .second, .val (.long kN), .second, .val (.long k2v), .second, .val (.ref b16), .unset, s24, s25, s26, s27, .unset, .unset, .unset, .unset, .unset]) (by rcases JS22 with ⟨rfl, rfl⟩ | ⟨z, rfl, rfl⟩ <;> rfl) ?_
    refine XS.iload X16.here hx rfl (hb hby at_279) rfl ?_
    refine XS.iconst X16.here hx rfl (hb hby at_281) ?_
    refine XS.icmpNo X16.here hx rfl (hb hby at_282) rfl (flt (by decide)).1 ?_
    refine XS.aload X16.here hx rfl (hb hby at_285) rfl rfl ?_
    refine XS.iconst X16.here hx rfl (hb hby at_287) ?_
    refine XS.lload X16.here hx rfl (hb hby at_288) rfl ?_
    refine XS.l2dS X16.here hx rfl (hb hby at_290) rfl rfl ?_
    refine X16.ldc2DoubleC hx hown (mvT hZ (hw _ (List.mem_of_getElem? (i := 16) rfl))) (g := (mkF m 291 #[.val (.int p0), .val (.int p1), .val (.int p2), .val (.int p3), .val (.int p4), .val (.int cs), .val (.int wd), .val (.int sd), .val (.int (2 : Int32)), .val (.int dd), .val (.long a0v), .second, .val (.long aN), .second, .val (.long a2v), .second, .val (.long k0v), .second, .val (.long kN), .second, .val (.long k2v), .second, .val (.ref b16), .unset, s24, s25, s26, s27, .unset, .unset, .unset, .unset, .unset] [(.double (FP.l2d a0v)), (.int (0 : Int32)), (.ref b16)])) rfl (hb hby at_291) _ ?_
    refine XS.ddivS X16.here hx rfl (hb hby at_294) rfl (nn64 (own_x J_k0v.1).1) rfl ?_
    exact k
  obtain ⟨cl19, Ar19, qc19, Sz19, Nn19, Hs19, Gs19⟩ := id V_b16
  have hin19 : ¬ ((0 : Int32) < 0 ∨ cl19.slots.size ≤ ((0 : Int32)).toNatClampNeg) := inb_of Sz19 ⟨by decide, by decide⟩
  obtain ⟨T20, h20, X20, e20, W20, st20⟩ := stD X16 hx hZ e16 Ar19 (j := (0 : Int32)) hin19 (g := (mkF m 295 #[.val (.int p0), .val (.int p1), .val (.int p2), .val (.int p3), .val (.int p4), .val (.int cs), .val (.int wd), .val (.int sd), .val (.int (2 : Int32)), .val (.int dd), .val (.long a0v), .second, .val (.long aN), .second, .val (.long a2v), .second, .val (.long k0v), .second, .val (.long kN), .second, .val (.long k2v), .second, .val (.ref b16), .unset, s24, s25, s26, s27, .unset, .unset, .unset, .unset, .unset] [(.double (FP.ddiv (FP.l2d a0v) (4652218415073722368 : UInt64))), (.int (0 : Int32)), (.ref b16)])) rfl rfl (hb hby at_295)
  have V20 : Arv Z h20 b16 kk16 .double (2 : Int32) [(.double (FP.ddiv (FP.l2d a0v) (4652218415073722368 : UInt64))), (.double (0 : UInt64))] (.double (0 : UInt64)) := Arv.set Ar19 qc19 Sz19 Nn19 Hs19 Gs19 rfl W20 0 rfl (Nat.le_of_ble_eq_true rfl)
  have N20 := Fr.snoc X20 N14 g_b16
  have K20 : Keep h0 h20 [] := Keep.wr K16 W20 (Or.inr sz_b16)
  have a21 : ∀ t, Steps p.tables e below (T20.setTop (mkF m 296 #[.val (.int p0), .val (.int p1), .val (.int p2), .val (.int p3), .val (.int p4), .val (.int cs), .val (.int wd), .val (.int sd), .val (.int (2 : Int32)), .val (.int dd), .val (.long a0v), .second, .val (.long aN), .second, .val (.long a2v), .second, .val (.long k0v), .second, .val (.long kN), .second, .val (.long k2v), .second, .val (.ref b16), .unset, s24, s25, s26, s27, .unset, .unset, .unset, .unset, .unset] [])) t → Steps p.tables e below (s₁.setTop (mkF m 130 #[.val (.int p0), .val (.int p1), .val (.int p2), .val (.int p3), .val (.int p4), .val (.int cs), .val (.int wd), .val (.int sd), .val (.int (2 : Int32)), .val (.int dd), .val (.long a0v), .second, .val (.long a1v), .second, .val (.long a2v), .second, .val (.long k0v), .second, .val (.long k1v), .second, .val (.long k2v), .second, .unset, .unset, .unset, .unset, .unset, .unset, .unset, .unset, .unset, .unset, .unset] [])) t := fun t k => a18 t (st20 t k)
  have a22 : ∀ t, Steps p.tables e below (T20.setTop (mkF m 312 #[.val (.int p0), .val (.int p1), .val (.int p2), .val (.int p3), .val (.int p4), .val (.int cs), .val (.int wd), .val (.int sd), .val (.int (2 : Int32)), .val (.int dd), .val (.long a0v), .second, .val (.long aN), .second, .val (.long a2v), .second, .val (.long k0v), .second, .val (.long kN), .second, .val (.long k2v), .second, .val (.ref b16), .unset, s24, s25, s26, s27, .unset, .unset, .unset, .unset, .unset] [(.double (FP.ddiv (FP.l2d aN) (4652218415073722368 : UInt64))), (.int (1 : Int32)), (.ref b16)])) t → Steps p.tables e below (s₁.setTop (mkF m 130 #[.val (.int p0), .val (.int p1), .val (.int p2), .val (.int p3), .val (.int p4), .val (.int cs), .val (.int wd), .val (.int sd), .val (.int (2 : Int32)), .val (.int dd), .val (.long a0v), .second, .val (.long a1v), .second, .val (.long a2v), .second, .val (.long k0v), .second, .val (.long k1v), .second, .val (.long k2v), .second, .unset, .unset, .unset, .unset, .unset, .unset, .unset, .unset, .unset, .unset, .unset] [])) t := by
    intro t k
    refine a21 t ?_
    show Steps p.tables e below (T20.setTop (mkF m 296 #[.val (.int p0), .val (.int p1), .val (.int p2), .val (.int p3), .val (.int p4), .val (.int cs), .val (.int wd), .val (.int sd), .val (.int (2 : Int32)), .val (.int dd), .val (.long a0v), .second, .val (.long aN), .second, .val (.long a2v), .second, .val (.long k0v), .second, .val (.long kN), .second, .val (.long k2v), .second, .val (.ref b16), .unset, s24, s25, s26, s27, .unset, .unset, .unset, .unset, .unset] [])) _
    refine XS.iload X20.here hx rfl (hb hby at_296) rfl ?_
    refine XS.iconst X20.here hx rfl (hb hby at_298) ?_
    refine XS.icmpNo X20.here hx rfl (hb hby at_299) rfl (flt (by decide)).1 ?_
    refine XS.aload X20.here hx rfl (hb hby at_302) rfl rfl ?_
    refine XS.iconst X20.here hx rfl (hb hby at_304) ?_
    refine XS.lload X20.here hx rfl (hb hby at_305) rfl ?_
    refine XS.l2dS X20.here hx rfl (hb hby at_307) rfl rfl ?_
    refine X20.ldc2DoubleC hx hown (mvT hZ (hw _ (List.mem_of_getElem? (i := 16) rfl))) (g := (mkF m 308 #[.val (.int p0), .val (.int p1), .val (.int p2), .val (.int p3), .val (.int p4), .val (.int cs), .val (.int wd), .val (.int sd), .val (.int (2 : Int32)), .val (.int dd), .val (.long a0v), .second, .val (.long aN), .second, .val (.long a2v), .second, .val (.long k0v), .second, .val (.long kN), .second, .val (.long k2v), .second, .val (.ref b16), .unset, s24, s25, s26, s27, .unset, .unset, .unset, .unset, .unset] [(.double (FP.l2d aN)), (.int (1 : Int32)), (.ref b16)])) rfl (hb hby at_308) _ ?_
    refine XS.ddivS X20.here hx rfl (hb hby at_311) rfl (nn64 (own_x J_kN.1).1) rfl ?_
    exact k
  obtain ⟨cl23, Ar23, qc23, Sz23, Nn23, Hs23, Gs23⟩ := id V20
  have hin23 : ¬ ((1 : Int32) < 0 ∨ cl23.slots.size ≤ ((1 : Int32)).toNatClampNeg) := inb_of Sz23 ⟨by decide, by decide⟩
  obtain ⟨T24, h24, X24, e24, W24, st24⟩ := stD X20 hx hZ e20 Ar23 (j := (1 : Int32)) hin23 (g := (mkF m 312 #[.val (.int p0), .val (.int p1), .val (.int p2), .val (.int p3), .val (.int p4), .val (.int cs), .val (.int wd), .val (.int sd), .val (.int (2 : Int32)), .val (.int dd), .val (.long a0v), .second, .val (.long aN), .second, .val (.long a2v), .second, .val (.long k0v), .second, .val (.long kN), .second, .val (.long k2v), .second, .val (.ref b16), .unset, s24, s25, s26, s27, .unset, .unset, .unset, .unset, .unset] [(.double (FP.ddiv (FP.l2d aN) (4652218415073722368 : UInt64))), (.int (1 : Int32)), (.ref b16)])) rfl rfl (hb hby at_312)
  have V24 : Arv Z h24 b16 kk16 .double (2 : Int32) [(.double (FP.ddiv (FP.l2d a0v) (4652218415073722368 : UInt64))), (.double (FP.ddiv (FP.l2d aN) (4652218415073722368 : UInt64)))] (.double (0 : UInt64)) := Arv.set Ar23 qc23 Sz23 Nn23 Hs23 Gs23 rfl W24 1 rfl (Nat.le_of_ble_eq_true rfl)
  have N24 := Fr.snoc X24 N20 g_b16
  have K24 : Keep h0 h24 [] := Keep.wr K20 W24 (Or.inr sz_b16)
  have a25 : ∀ t, Steps p.tables e below (T24.setTop (mkF m 313 #[.val (.int p0), .val (.int p1), .val (.int p2), .val (.int p3), .val (.int p4), .val (.int cs), .val (.int wd), .val (.int sd), .val (.int (2 : Int32)), .val (.int dd), .val (.long a0v), .second, .val (.long aN), .second, .val (.long a2v), .second, .val (.long k0v), .second, .val (.long kN), .second, .val (.long k2v), .second, .val (.ref b16), .unset, s24, s25, s26, s27, .unset, .unset, .unset, .unset, .unset] [])) t → Steps p.tables e below (s₁.setTop (mkF m 130 #[.val (.int p0), .val (.int p1), .val (.int p2), .val (.int p3), .val (.int p4), .val (.int cs), .val (.int wd), .val (.int sd), .val (.int (2 : Int32)), .val (.int dd), .val (.long a0v), .second, .val (.long a1v), .second, .val (.long a2v), .second, .val (.long k0v), .second, .val (.long k1v), .second, .val (.long k2v), .second, .unset, .unset, .unset, .unset, .unset, .unset, .unset, .unset, .unset, .unset, .unset] [])) t := fun t k => a22 t (st24 t k)
  have a26 : ∀ t, Steps p.tables e below (T24.setTop (mkF m 334 #[.val (.int p0), .val (.int p1), .val (.int p2), .val (.int p3), .val (.int p4), .val (.int cs), .val (.int wd), .val (.int sd), .val (.int (2 : Int32)), .val (.int dd), .val (.long a0v), .second, .val (.long aN), .second, .val (.long a2v), .second, .val (.long k0v), .second, .val (.long kN), .second, .val (.long k2v), .second, .val (.ref b16), .unset, s24, s25, s26, s27, .unset, .unset, .unset, .unset, .unset] [(.int dd), (.ref b16)])) t → Steps p.tables e below (s₁.setTop (mkF m 130 #[.val (.int p0), .val (.int p1), .val (.int p2), .val (.int p3), .val (.int p4), .val (.int cs), .val (.int wd), .val (.int sd), .val (.int (2 : Int32)), .val (.int dd), .val (.long a0v), .second, .val (.long a1v), .second, .val (.long a2v), .second, .val (.long k0v), .second, .val (.long k1v), .second, .val (.long k2v), .second, .unset, .unset, .unset, .unset, .unset, .unset, .unset, .unset, .unset, .unset, .unset] [])) t := by
    intro t k
    refine a25 t ?_
    show Steps p.tables e below (T24.setTop (mkF m 313 #[.val (.int p0), .val (.int p1), .val (.int p2), .val (.int p3), .val (.int p4), .val (.int cs), .val (.int wd), .val (.int sd), .val (.int (2 : Int32)), .val (.int dd), .val (.long a0v), .second, .val (.long aN), .second, .val (.long a2v), .second, .val (.long k0v), .second, .val (.long kN), .second, .val (.long k2v), .second, .val (.ref b16), .unset, s24, s25, s26, s27, .unset, .unset, .unset, .unset, .unset] [])) _
    refine XS.iload X24.here hx rfl (hb hby at_313) rfl ?_
    refine XS.iconst X24.here hx rfl (hb hby at_315) ?_
    refine XS.icmpYes X24.here hx rfl (pc0 := 316) (pc' := 330) rfl (hb hby at_316) rfl (tlt (by decide)).1 (by decide) (by decide) ?_
    refine XS.aload X24.here hx rfl (hb hby at_330) rfl rfl ?_
    refine XS.iload X24.here hx rfl (hb hby at_332) rfl ?_
    exact k
  obtain ⟨_, _, ⟨T27, L27, k27, n27⟩, -, X27, ⟨Lc27, hQ27, l27, y27, z27⟩, st27⟩ := Jvm.LawKit.callS X24 hx (y := (⟨"com/example/tillerfront/tillerfront/engine/ReferencePoints", "nearest", "([DI)[D"⟩ : MethodName)) hown (mvT hZ (hw _ (List.mem_of_getElem? (i := 12) rfl))) (mvT hZ (hw _ (List.mem_of_getElem? (i := 13) rfl))) (mvT hZ (hw _ (List.mem_of_getElem? (i := 14) rfl))) (mvT hZ (hw _ (List.mem_of_getElem? (i := 15) rfl))) (by decide) (backOf (W := 0) (rmN2 l Z a0 hw [] b16 dd kk16 a0v k0v aN kN h24 n0 (Nat.le_trans (Nat.le_trans (Nat.le_trans Z0 E16.1) (Keep.of_wr W20).1) (Keep.of_wr W24).1) V24 hdd J_k0v J_kN) hZ (hw _ (List.mem_of_getElem? (i := 15) rfl)) (hw _ (List.mem_of_getElem? (i := 14) rfl)) (by decide) (by decide)) (g := (mkF m 334 #[.val (.int p0), .val (.int p1), .val (.int p2), .val (.int p3), .val (.int p4), .val (.int cs), .val (.int wd), .val (.int sd), .val (.int (2 : Int32)), .val (.int dd), .val (.long a0v), .second, .val (.long aN), .second, .val (.long a2v), .second, .val (.long k0v), .second, .val (.long kN), .second, .val (.long k2v), .second, .val (.ref b16), .unset, s24, s25, s26, s27, .unset, .unset, .unset, .unset, .unset] [(.int dd), (.ref b16)])) rfl (by rw [hml]; rfl) (argsL := [(.ref b16), (.int dd)]) (rest := []) (lenOf own_pd3 rfl) rfl (by show 2 * 0 + _ ≤ _; exact Nat.le_of_eq rfl) (hb hby at_334) (fun _ _ => ⟨rfl, e24, (by decide : 1 + 1 ≤ _), (by decide : 2 + 3 ≤ _)⟩)
  dsimp only [Pt.U, Pt.locs, Pt.cells, Pt.slots] at X27 l27 y27 z27 st27 hQ27
  subst l27 y27 z27
  rcases hQ27 with ⟨rfl, G27, N27q, K27q⟩ | ⟨rb27, kb27, rfl, G27, N27q, K27q, AR27⟩
  ·
    have N27 := Fr.app N24 N27q
    have KK27 : Keep h0 T27.heap [] := Keep.trans K24 K27q all0
    have a28 : ∀ t, Steps p.tables e below (T27.setTop (mkF m 337 #[.val (.int p0), .val (.int p1), .val (.int p2), .val (.int p3), .val (.int p4), .val (.int cs), .val (.int wd), .val (.int sd), .val (.int (2 : Int32)), .val (.int dd), .val (.long a0v), .second, .val (.long aN), .second, .val (.long a2v), .second, .val (.long k0v), .second, .val (.long kN), .second, .val (.long k2v), .second, .val (.ref b16), .unset, s24, s25, s26, s27, .unset, .unset, .unset, .unset, .unset] [.null])) t → Steps p.tables e below (s₁.setTop (mkF m 130 #[.val (.int p0), .val (.int p1), .val (.int p2), .val (.int p3), .val (.int p4), .val (.int cs), .val (.int wd), .val (.int sd), .val (.int (2 : Int32)), .val (.int dd), .val (.long a0v), .second, .val (.long a1v), .second, .val (.long a2v), .second, .val (.long k0v), .second, .val (.long k1v), .second, .val (.long k2v), .second, .unset, .unset, .unset, .unset, .unset, .unset, .unset, .unset, .unset, .unset, .unset] [])) t := fun t k => a26 t (st27 t k)
    have a29 : ∀ t, Steps p.tables e below (T27.setTop (mkF m 349 #[.val (.int p0), .val (.int p1), .val (.int p2), .val (.int p3), .val (.int p4), .val (.int cs), .val (.int wd), .val (.int sd), .val (.int (2 : Int32)), .val (.int dd), .val (.long a0v), .second, .val (.long aN), .second, .val (.long a2v), .second, .val (.long k0v), .second, .val (.long kN), .second, .val (.long k2v), .second, .val (.ref b16), .val .null, s24, s25, s26, s27, .unset, .unset, .unset, .unset, .unset] [(.int (lcmpW k0v (0 : Int64)))])) t → Steps p.tables e below (s₁.setTop (mkF m 130 #[.val (.int p0), .val (.int p1), .val (.int p2), .val (.int p3), .val (.int p4), .val (.int cs), .val (.int wd), .val (.int sd), .val (.int (2 : Int32)), .val (.int dd), .val (.long a0v), .second, .val (.long a1v), .second, .val (.long a2v), .second, .val (.long k0v), .second, .val (.long k1v), .second, .val (.long k2v), .second, .unset, .unset, .unset, .unset, .unset, .unset, .unset, .unset, .unset, .unset, .unset] [])) t := by
      intro t k
      refine a28 t ?_
      show Steps p.tables e below (T27.setTop (mkF m 337 #[.val (.int p0), .val (.int p1), .val (.int p2), .val (.int p3), .val (.int p4), .val (.int cs), .val (.int wd), .val (.int sd), .val (.int (2 : Int32)), .val (.int dd), .val (.long a0v), .second, .val (.long aN), .second, .val (.long a2v), .second, .val (.long k0v), .second, .val (.long kN), .second, .val (.long k2v), .second, .val (.ref b16), .unset, s24, s25, s26, s27, .unset, .unset, .unset, .unset, .unset] [.null])) _
      refine XS.astore X27.here hx rfl (hb hby at_337) rfl rfl (l' := #[.val (.int p0), .val (.int p1), .val (.int p2), .val (.int p3), .val (.int p4), .val (.int cs), .val (.int wd), .val (.int sd), .val (.int (2 : Int32)), .val (.int dd), .val (.long a0v), .second, .val (.long aN), .second, .val (.long a2v), .second, .val (.long k0v), .second, .val (.long kN), .second, .val (.long k2v), .second, .val (.ref b16), .val .null, s24, s25, s26, s27, .unset, .unset, .unset, .unset, .unset]) rfl ?_
      refine XS.iload X27.here hx rfl (hb hby at_339) rfl ?_
      refine XS.iconst X27.here hx rfl (hb hby at_341) ?_
      refine XS.icmpNo X27.here hx rfl (hb hby at_342) rfl (flt (by decide)).1 ?_
      refine XS.lload X27.here hx rfl (hb hby at_345) rfl ?_
      refine XS.lconst X27.here hx rfl (hb hby at_347) ?_
      refine XS.lcmp X27.here hx rfl (hb hby at_348) rfl ?_
      exact k
    obtain ⟨ok0, JO0, a36⟩ : ∃ (ok0 : Int32), ((ok0 = 1 ∧ OwnOk k0v dd) ∨ (ok0 = 0 ∧ ¬ OwnOk k0v dd)) ∧ ∀ t, Steps p.tables e below (T27.setTop (mkF m 366 #[.val (.int p0), .val (.int p1), .val (.int p2), .val (.int p3), .val (.int p4), .val (.int cs), .val (.int wd), .val (.int sd), .val (.int (2 : Int32)), .val (.int dd), .val (.long a0v), .second, .val (.long aN), .second, .val (.long a2v), .second, .val (.long k0v), .second, .val (.long kN), .second, .val (.long k2v), .second, .val (.ref b16), .val .null, s24, s25, s26, s27, .unset, .unset, .unset, .unset, .unset] [(.int ok0)])) t → Steps p.tables e below (s₁.setTop (mkF m 130 #[.val (.int p0), .val (.int p1), .val (.int p2), .val (.int p3), .val (.int p4), .val (.int cs), .val (.int wd), .val (.int sd), .val (.int (2 : Int32)), .val (.int dd), .val (.long a0v), .second, .val (.long a1v), .second, .val (.long a2v), .second, .val (.long k0v), .second, .val (.long k1v), .second, .val (.long k2v), .second, .unset, .unset, .unset, .unset, .unset, .unset, .unset, .unset, .unset, .unset, .unset] [])) t := by
      by_cases hc349_30 : k0v < (0 : Int64)
      ·
        have a31 : ∀ t, Steps p.tables e below (T27.setTop (mkF m 366 #[.val (.int p0), .val (.int p1), .val (.int p2), .val (.int p3), .val (.int p4), .val (.int cs), .val (.int wd), .val (.int sd), .val (.int (2 : Int32)), .val (.int dd), .val (.long a0v), .second, .val (.long aN), .second, .val (.long a2v), .second, .val (.long k0v), .second, .val (.long kN), .second, .val (.long k2v), .second, .val (.ref b16), .val .null, s24, s25, s26, s27, .unset, .unset, .unset, .unset, .unset] [(.int (0 : Int32))])) t → Steps p.tables e below (s₁.setTop (mkF m 130 #[.val (.int p0), .val (.int p1), .val (.int p2), .val (.int p3), .val (.int p4), .val (.int cs), .val (.int wd), .val (.int sd), .val (.int (2 : Int32)), .val (.int dd), .val (.long a0v), .second, .val (.long a1v), .second, .val (.long a2v), .second, .val (.long k0v), .second, .val (.long k1v), .second, .val (.long k2v), .second, .unset, .unset, .unset, .unset, .unset, .unset, .unset, .unset, .unset, .unset, .unset] [])) t := by
          intro t k
          refine a29 t ?_
          show Steps p.tables e below (T27.setTop (mkF m 349 #[.val (.int p0), .val (.int p1), .val (.int p2), .val (.int p3), .val (.int p4), .val (.int cs), .val (.int wd), .val (.int sd), .val (.int (2 : Int32)), .val (.int dd), .val (.long a0v), .second, .val (.long aN), .second, .val (.long a2v), .second, .val (.long k0v), .second, .val (.long kN), .second, .val (.long k2v), .second, .val (.ref b16), .val .null, s24, s25, s26, s27, .unset, .unset, .unset, .unset, .unset] [(.int (lcmpW k0v (0 : Int64)))])) _
          refine XS.ifYes X27.here hx rfl (pc0 := 349) (pc' := 365) rfl (hb hby at_349) rfl ((if0 _ _).trans (tlt ((lw_lt k0v (0 : Int64)).mpr hc349_30)).1) (by decide) (by decide) ?_
          refine XS.iconst X27.here hx rfl (hb hby at_365) ?_
          exact k
        exact ⟨(0 : Int32), Or.inr ⟨rfl, own_not_ok (Or.inl hc349_30)⟩, a31⟩
      ·
        have a32 : ∀ t, Steps p.tables e below (T27.setTop (mkF m 358 #[.val (.int p0), .val (.int p1), .val (.int p2), .val (.int p3), .val (.int p4), .val (.int cs), .val (.int wd), .val (.int sd), .val (.int (2 : Int32)), .val (.int dd), .val (.long a0v), .second, .val (.long aN), .second, .val (.long a2v), .second, .val (.long k0v), .second, .val (.long kN), .second, .val (.long k2v), .second, .val (.ref b16), .val .null, s24, s25, s26, s27, .unset, .unset, .unset, .unset, .unset] [(.int (lcmpW k0v (dd.toInt64)))])) t → Steps p.tables e below (s₁.setTop (mkF m 130 #[.val (.int p0), .val (.int p1), .val (.int p2), .val (.int p3), .val (.int p4), .val (.int cs), .val (.int wd), .val (.int sd), .val (.int (2 : Int32)), .val (.int dd), .val (.long a0v), .second, .val (.long a1v), .second, .val (.long a2v), .second, .val (.long k0v), .second, .val (.long k1v), .second, .val (.long k2v), .second, .unset, .unset, .unset, .unset, .unset, .unset, .unset, .unset, .unset, .unset, .unset] [])) t := by
          intro t k
          refine a29 t ?_
          show Steps p.tables e below (T27.setTop (mkF m 349 #[.val (.int p0), .val (.int p1), .val (.int p2), .val (.int p3), .val (.int p4), .val (.int cs), .val (.int wd), .val (.int sd), .val (.int (2 : Int32)), .val (.int dd), .val (.long a0v), .second, .val (.long aN), .second, .val (.long a2v), .second, .val (.long k0v), .second, .val (.long kN), .second, .val (.long k2v), .second, .val (.ref b16), .val .null, s24, s25, s26, s27, .unset, .unset, .unset, .unset, .unset] [(.int (lcmpW k0v (0 : Int64)))])) _
          refine XS.ifNo X27.here hx rfl (hb hby at_349) rfl ((if0 _ _).trans (flt (fun q => hc349_30 ((lw_lt k0v (0 : Int64)).mp q))).1) ?_
          refine XS.lload X27.here hx rfl (hb hby at_352) rfl ?_
          refine XS.iload X27.here hx rfl (hb hby at_354) rfl ?_
          refine XS.i2l X27.here hx rfl (hb hby at_356) rfl ?_
          refine XS.lcmp X27.here hx rfl (hb hby at_357) rfl ?_
          exact k
        by_cases hc358_33 : (dd.toInt64) < k0v
        ·
          have a34 : ∀ t, Steps p.tables e below (T27.setTop (mkF m 366 #[.val (.int p0), .val (.int p1), .val (.int p2), .val (.int p3), .val (.int p4), .val (.int cs), .val (.int wd), .val (.int sd), .val (.int (2 : Int32)), .val (.int dd), .val (.long a0v), .second, .val (.long aN), .second, .val (.long a2v), .second, .val (.long k0v), .second, .val (.long kN), .second, .val (.long k2v), .second, .val (.ref b16), .val .null, s24, s25, s26, s27, .unset, .unset, .unset, .unset, .unset] [(.int (0 : Int32))])) t → Steps p.tables e below (s₁.setTop (mkF m 130 #[.val (.int p0), .val (.int p1), .val (.int p2), .val (.int p3), .val (.int p4), .val (.int cs), .val (.int wd), .val (.int sd), .val (.int (2 : Int32)), .val (.int dd), .val (.long a0v), .second, .val (.long a1v), .second, .val (.long a2v), .second, .val (.long k0v), .second, .val (.long k1v), .second, .val (.long k2v), .second, .unset, .unset, .unset, .unset, .unset, .unset, .unset, .unset, .unset, .unset, .unset] [])) t := by
            intro t k
            refine a32 t ?_
            show Steps p.tables e below (T27.setTop (mkF m 358 #[.val (.int p0), .val (.int p1), .val (.int p2), .val (.int p3), .val (.int p4), .val (.int cs), .val (.int wd), .val (.int sd), .val (.int (2 : Int32)), .val (.int dd), .val (.long a0v), .second, .val (.long aN), .second, .val (.long a2v), .second, .val (.long k0v), .second, .val (.long kN), .second, .val (.long k2v), .second, .val (.ref b16), .val .null, s24, s25, s26, s27, .unset, .unset, .unset, .unset, .unset] [(.int (lcmpW k0v (dd.toInt64)))])) _
            refine XS.ifYes X27.here hx rfl (pc0 := 358) (pc' := 365) rfl (hb hby at_358) rfl ((if0 _ _).trans (tlt ((lw_gt k0v (dd.toInt64)).mpr hc358_33)).2.2.1) (by decide) (by decide) ?_
            refine XS.iconst X27.here hx rfl (hb hby at_365) ?_
            exact k
          exact ⟨(0 : Int32), Or.inr ⟨rfl, own_not_ok (Or.inr hc358_33)⟩, a34⟩
        ·
          have a35 : ∀ t, Steps p.tables e below (T27.setTop (mkF m 366 #[.val (.int p0), .val (.int p1), .val (.int p2), .val (.int p3), .val (.int p4), .val (.int cs), .val (.int wd), .val (.int sd), .val (.int (2 : Int32)), .val (.int dd), .val (.long a0v), .second, .val (.long aN), .second, .val (.long a2v), .second, .val (.long k0v), .second, .val (.long kN), .second, .val (.long k2v), .second, .val (.ref b16), .val .null, s24, s25, s26, s27, .unset, .unset, .unset, .unset, .unset] [(.int (1 : Int32))])) t → Steps p.tables e below (s₁.setTop (mkF m 130 #[.val (.int p0), .val (.int p1), .val (.int p2), .val (.int p3), .val (.int p4), .val (.int cs), .val (.int wd), .val (.int sd), .val (.int (2 : Int32)), .val (.int dd), .val (.long a0v), .second, .val (.long a1v), .second, .val (.long a2v), .second, .val (.long k0v), .second, .val (.long k1v), .second, .val (.long k2v), .second, .unset, .unset, .unset, .unset, .unset, .unset, .unset, .unset, .unset, .unset, .unset] [])) t := by
            intro t k
            refine a32 t ?_
            show Steps p.tables e below (T27.setTop (mkF m 358 #[.val (.int p0), .val (.int p1), .val (.int p2), .val (.int p3), .val (.int p4), .val (.int cs), .val (.int wd), .val (.int sd), .val (.int (2 : Int32)), .val (.int dd), .val (.long a0v), .second, .val (.long aN), .second, .val (.long a2v), .second, .val (.long k0v), .second, .val (.long kN), .second, .val (.long k2v), .second, .val (.ref b16), .val .null, s24, s25, s26, s27, .unset, .unset, .unset, .unset, .unset] [(.int (lcmpW k0v (dd.toInt64)))])) _
            refine XS.ifNo X27.here hx rfl (hb hby at_358) rfl ((if0 _ _).trans (flt (fun q => hc358_33 ((lw_gt k0v (dd.toInt64)).mp q))).2.2.1) ?_
            refine XS.iconst X27.here hx rfl (hb hby at_361) ?_
            refine XS.goto X27.here hx rfl (pc0 := 362) (pc' := 366) rfl (hb hby at_362) (by decide) (by decide) ?_
            exact k
          exact ⟨(1 : Int32), Or.inl ⟨rfl, own_is_ok hc349_30 hc358_33⟩, a35⟩
    have a37 : ∀ t, Steps p.tables e below (T27.setTop (mkF m 378 #[.val (.int p0), .val (.int p1), .val (.int p2), .val (.int p3), .val (.int p4), .val (.int cs), .val (.int wd), .val (.int sd), .val (.int (2 : Int32)), .val (.int dd), .val (.long a0v), .second, .val (.long aN), .second, .val (.long a2v), .second, .val (.long k0v), .second, .val (.long kN), .second, .val (.long k2v), .second, .val (.ref b16), .val .null, .val (.int ok0), .unset, s26, s27, .unset, .unset, .unset, .unset, .unset] [(.int (lcmpW kN (0 : Int64)))])) t → Steps p.tables e below (s₁.setTop (mkF m 130 #[.val (.int p0), .val (.int p1), .val (.int p2), .val (.int p3), .val (.int p4), .val (.int cs), .val (.int wd), .val (.int sd), .val (.int (2 : Int32)), .val (.int dd), .val (.long a0v), .second, .val (.long a1v), .second, .val (.long a2v), .second, .val (.long k0v), .second, .val (.long k1v), .second, .val (.long k2v), .second, .unset, .unset, .unset, .unset, .unset, .unset, .unset, .unset, .unset, .unset, .unset] [])) t := by
      intro t k
      refine a36 t ?_
      show Steps p.tables e below (T27.setTop (mkF m 366 #[.val (.int p0), .val (.int p1), .val (.int p2), .val (.int p3), .val (.int p4), .val (.int cs), .val (.int wd), .val (.int sd), .val (.int (2 : Int32)), .val (.int dd), .val (.long a0v), .second, .val (.long aN), .second, .val (.long a2v), .second, .val (.long k0v), .second, .val (.long kN), .second, .val (.long k2v), .second, .val (.ref b16), .val .null, s24, s25, s26, s27, .unset, .unset, .unset, .unset, .unset] [(.int ok0)])) _
      refine XS.istore X27.here hx rfl (hb hby at_366) rfl (l' := #[.val (.int p0), .val (.int p1), .val (.int p2), .val (.int p3), .val (.int p4), .val (.int cs), .val (.int wd), .val (.int sd), .val (.int (2 : Int32)), .val (.int dd), .val (.long a0v), .second, .val (.long aN), .second, .val (.long a2v), .second, .val (.long k0v), .second, .val (.long kN), .second, .val (.long k2v), .second, .val (.ref b16), .val .null, .val (.int ok0), .unset, s26, s27, .unset, .unset, .unset, .unset, .unset]) (by rcases JS24 with ⟨rfl, rfl⟩ | ⟨z, rfl, rfl⟩ <;> rfl) ?_
      refine XS.iload X27.here hx rfl (hb hby at_368) rfl ?_
      refine XS.iconst X27.here hx rfl (hb hby at_370) ?_
      refine XS.icmpNo X27.here hx rfl (hb hby at_371) rfl (flt (by decide)).1 ?_
      refine XS.lload X27.here hx rfl (hb hby at_374) rfl ?_
      refine XS.lconst X27.here hx rfl (hb hby at_376) ?_
      refine XS.lcmp X27.here hx rfl (hb hby at_377) rfl ?_
      exact k
    obtain ⟨ok1, JO1, a44⟩ : ∃ (ok1 : Int32), ((ok1 = 1 ∧ OwnOk kN dd) ∨ (ok1 = 0 ∧ ¬ OwnOk kN dd)) ∧ ∀ t, Steps p.tables e below (T27.setTop (mkF m 395 #[.val (.int p0), .val (.int p1), .val (.int p2), .val (.int p3), .val (.int p4), .val (.int cs), .val (.int wd), .val (.int sd), .val (.int (2 : Int32)), .val (.int dd), .val (.long a0v), .second, .val (.long aN), .second, .val (.long a2v), .second, .val (.long k0v), .second, .val (.long kN), .second, .val (.long k2v), .second, .val (.ref b16), .val .null, .val (.int ok0), .unset, s26, s27, .unset, .unset, .unset, .unset, .unset] [(.int ok1)])) t → Steps p.tables e below (s₁.setTop (mkF m 130 #[.val (.int p0), .val (.int p1), .val (.int p2), .val (.int p3), .val (.int p4), .val (.int cs), .val (.int wd), .val (.int sd), .val (.int (2 : Int32)), .val (.int dd), .val (.long a0v), .second, .val (.long a1v), .second, .val (.long a2v), .second, .val (.long k0v), .second, .val (.long k1v), .second, .val (.long k2v), .second, .unset, .unset, .unset, .unset, .unset, .unset, .unset, .unset, .unset, .unset, .unset] [])) t := by
      by_cases hc378_38 : kN < (0 : Int64)
      ·
        have a39 : ∀ t, Steps p.tables e below (T27.setTop (mkF m 395 #[.val (.int p0), .val (.int p1), .val (.int p2), .val (.int p3), .val (.int p4), .val (.int cs), .val (.int wd), .val (.int sd), .val (.int (2 : Int32)), .val (.int dd), .val (.long a0v), .second, .val (.long aN), .second, .val (.long a2v), .second, .val (.long k0v), .second, .val (.long kN), .second, .val (.long k2v), .second, .val (.ref b16), .val .null, .val (.int ok0), .unset, s26, s27, .unset, .unset, .unset, .unset, .unset] [(.int (0 : Int32))])) t → Steps p.tables e below (s₁.setTop (mkF m 130 #[.val (.int p0), .val (.int p1), .val (.int p2), .val (.int p3), .val (.int p4), .val (.int cs), .val (.int wd), .val (.int sd), .val (.int (2 : Int32)), .val (.int dd), .val (.long a0v), .second, .val (.long a1v), .second, .val (.long a2v), .second, .val (.long k0v), .second, .val (.long k1v), .second, .val (.long k2v), .second, .unset, .unset, .unset, .unset, .unset, .unset, .unset, .unset, .unset, .unset, .unset] [])) t := by
          intro t k
          refine a37 t ?_
          show Steps p.tables e below (T27.setTop (mkF m 378 #[.val (.int p0), .val (.int p1), .val (.int p2), .val (.int p3), .val (.int p4), .val (.int cs), .val (.int wd), .val (.int sd), .val (.int (2 : Int32)), .val (.int dd), .val (.long a0v), .second, .val (.long aN), .second, .val (.long a2v), .second, .val (.long k0v), .second, .val (.long kN), .second, .val (.long k2v), .second, .val (.ref b16), .val .null, .val (.int ok0), .unset, s26, s27, .unset, .unset, .unset, .unset, .unset] [(.int (lcmpW kN (0 : Int64)))])) _
          refine XS.ifYes X27.here hx rfl (pc0 := 378) (pc' := 394) rfl (hb hby at_378) rfl ((if0 _ _).trans (tlt ((lw_lt kN (0 : Int64)).mpr hc378_38)).1) (by decide) (by decide) ?_
          refine XS.iconst X27.here hx rfl (hb hby at_394) ?_
          exact k
        exact ⟨(0 : Int32), Or.inr ⟨rfl, own_not_ok (Or.inl hc378_38)⟩, a39⟩
      ·
        have a40 : ∀ t, Steps p.tables e below (T27.setTop (mkF m 387 #[.val (.int p0), .val (.int p1), .val (.int p2), .val (.int p3), .val (.int p4), .val (.int cs), .val (.int wd), .val (.int sd), .val (.int (2 : Int32)), .val (.int dd), .val (.long a0v), .second, .val (.long aN), .second, .val (.long a2v), .second, .val (.long k0v), .second, .val (.long kN), .second, .val (.long k2v), .second, .val (.ref b16), .val .null, .val (.int ok0), .unset, s26, s27, .unset, .unset, .unset, .unset, .unset] [(.int (lcmpW kN (dd.toInt64)))])) t → Steps p.tables e below (s₁.setTop (mkF m 130 #[.val (.int p0), .val (.int p1), .val (.int p2), .val (.int p3), .val (.int p4), .val (.int cs), .val (.int wd), .val (.int sd), .val (.int (2 : Int32)), .val (.int dd), .val (.long a0v), .second, .val (.long a1v), .second, .val (.long a2v), .second, .val (.long k0v), .second, .val (.long k1v), .second, .val (.long k2v), .second, .unset, .unset, .unset, .unset, .unset, .unset, .unset, .unset, .unset, .unset, .unset] [])) t := by
          intro t k
          refine a37 t ?_
          show Steps p.tables e below (T27.setTop (mkF m 378 #[.val (.int p0), .val (.int p1), .val (.int p2), .val (.int p3), .val (.int p4), .val (.int cs), .val (.int wd), .val (.int sd), .val (.int (2 : Int32)), .val (.int dd), .val (.long a0v), .second, .val (.long aN), .second, .val (.long a2v), .second, .val (.long k0v), .second, .val (.long kN), .second, .val (.long k2v), .second, .val (.ref b16), .val .null, .val (.int ok0), .unset, s26, s27, .unset, .unset, .unset, .unset, .unset] [(.int (lcmpW kN (0 : Int64)))])) _
          refine XS.ifNo X27.here hx rfl (hb hby at_378) rfl ((if0 _ _).trans (flt (fun q => hc378_38 ((lw_lt kN (0 : Int64)).mp q))).1) ?_
          refine XS.lload X27.here hx rfl (hb hby at_381) rfl ?_
          refine XS.iload X27.here hx rfl (hb hby at_383) rfl ?_
          refine XS.i2l X27.here hx rfl (hb hby at_385) rfl ?_
          refine XS.lcmp X27.here hx rfl (hb hby at_386) rfl ?_
          exact k
        by_cases hc387_41 : (dd.toInt64) < kN
        ·
          have a42 : ∀ t, Steps p.tables e below (T27.setTop (mkF m 395 #[.val (.int p0), .val (.int p1), .val (.int p2), .val (.int p3), .val (.int p4), .val (.int cs), .val (.int wd), .val (.int sd), .val (.int (2 : Int32)), .val (.int dd), .val (.long a0v), .second, .val (.long aN), .second, .val (.long a2v), .second, .val (.long k0v), .second, .val (.long kN), .second, .val (.long k2v), .second, .val (.ref b16), .val .null, .val (.int ok0), .unset, s26, s27, .unset, .unset, .unset, .unset, .unset] [(.int (0 : Int32))])) t → Steps p.tables e below (s₁.setTop (mkF m 130 #[.val (.int p0), .val (.int p1), .val (.int p2), .val (.int p3), .val (.int p4), .val (.int cs), .val (.int wd), .val (.int sd), .val (.int (2 : Int32)), .val (.int dd), .val (.long a0v), .second, .val (.long a1v), .second, .val (.long a2v), .second, .val (.long k0v), .second, .val (.long k1v), .second, .val (.long k2v), .second, .unset, .unset, .unset, .unset, .unset, .unset, .unset, .unset, .unset, .unset, .unset] [])) t := by
            intro t k
            refine a40 t ?_
            show Steps p.tables e below (T27.setTop (mkF m 387 #[.val (.int p0), .val (.int p1), .val (.int p2), .val (.int p3), .val (.int p4), .val (.int cs), .val (.int wd), .val (.int sd), .val (.int (2 : Int32)), .val (.int dd), .val (.long a0v), .second, .val (.long aN), .second, .val (.long a2v), .second, .val (.long k0v), .second, .val (.long kN), .second, .val (.long k2v), .second, .val (.ref b16), .val .null, .val (.int ok0), .unset, s26, s27, .unset, .unset, .unset, .unset, .unset] [(.int (lcmpW kN (dd.toInt64)))])) _
            refine XS.ifYes X27.here hx rfl (pc0 := 387) (pc' := 394) rfl (hb hby at_387) rfl ((if0 _ _).trans (tlt ((lw_gt kN (dd.toInt64)).mpr hc387_41)).2.2.1) (by decide) (by decide) ?_
            refine XS.iconst X27.here hx rfl (hb hby at_394) ?_
            exact k
          exact ⟨(0 : Int32), Or.inr ⟨rfl, own_not_ok (Or.inr hc387_41)⟩, a42⟩
        ·
          have a43 : ∀ t, Steps p.tables e below (T27.setTop (mkF m 395 #[.val (.int p0), .val (.int p1), .val (.int p2), .val (.int p3), .val (.int p4), .val (.int cs), .val (.int wd), .val (.int sd), .val (.int (2 : Int32)), .val (.int dd), .val (.long a0v), .second, .val (.long aN), .second, .val (.long a2v), .second, .val (.long k0v), .second, .val (.long kN), .second, .val (.long k2v), .second, .val (.ref b16), .val .null, .val (.int ok0), .unset, s26, s27, .unset, .unset, .unset, .unset, .unset] [(.int (1 : Int32))])) t → Steps p.tables e below (s₁.setTop (mkF m 130 #[.val (.int p0), .val (.int p1), .val (.int p2), .val (.int p3), .val (.int p4), .val (.int cs), .val (.int wd), .val (.int sd), .val (.int (2 : Int32)), .val (.int dd), .val (.long a0v), .second, .val (.long a1v), .second, .val (.long a2v), .second, .val (.long k0v), .second, .val (.long k1v), .second, .val (.long k2v), .second, .unset, .unset, .unset, .unset, .unset, .unset, .unset, .unset, .unset, .unset, .unset] [])) t := by
            intro t k
            refine a40 t ?_
            show Steps p.tables e below (T27.setTop (mkF m 387 #[.val (.int p0), .val (.int p1), .val (.int p2), .val (.int p3), .val (.int p4), .val (.int cs), .val (.int wd), .val (.int sd), .val (.int (2 : Int32)), .val (.int dd), .val (.long a0v), .second, .val (.long aN), .second, .val (.long a2v), .second, .val (.long k0v), .second, .val (.long kN), .second, .val (.long k2v), .second, .val (.ref b16), .val .null, .val (.int ok0), .unset, s26, s27, .unset, .unset, .unset, .unset, .unset] [(.int (lcmpW kN (dd.toInt64)))])) _
            refine XS.ifNo X27.here hx rfl (hb hby at_387) rfl ((if0 _ _).trans (flt (fun q => hc387_41 ((lw_gt kN (dd.toInt64)).mp q))).2.2.1) ?_
            refine XS.iconst X27.here hx rfl (hb hby at_390) ?_
            refine XS.goto X27.here hx rfl (pc0 := 391) (pc' := 395) rfl (hb hby at_391) (by decide) (by decide) ?_
            exact k
          exact ⟨(1 : Int32), Or.inl ⟨rfl, own_is_ok hc378_38 hc387_41⟩, a43⟩
    have a45 : ∀ t, Steps p.tables e below (T27.setTop (mkF m 468 #[.val (.int p0), .val (.int p1), .val (.int p2), .val (.int p3), .val (.int p4), .val (.int cs), .val (.int wd), .val (.int sd), .val (.int (2 : Int32)), .val (.int dd), .val (.long a0v), .second, .val (.long aN), .second, .val (.long a2v), .second, .val (.long k0v), .second, .val (.long kN), .second, .val (.long k2v), .second, .val (.ref b16), .val .null, .val (.int ok0), .val (.int ok1), .val (.int (1 : Int32)), .val (.long ((k0v + kN) + (0 : Int64))), .second, .unset, .unset, .unset, .unset] [(.int ok0)])) t → Steps p.tables e below (s₁.setTop (mkF m 130 #[.val (.int p0), .val (.int p1), .val (.int p2), .val (.int p3), .val (.int p4), .val (.int cs), .val (.int wd), .val (.int sd), .val (.int (2 : Int32)), .val (.int dd), .val (.long a0v), .second, .val (.long a1v), .second, .val (.long a2v), .second, .val (.long k0v), .second, .val (.long k1v), .second, .val (.long k2v), .second, .unset, .unset, .unset, .unset, .unset, .unset, .unset, .unset, .unset, .unset, .unset] [])) t := by
      intro t k
      refine a44 t ?_
      show Steps p.tables e below (T27.setTop (mkF m 395 #[.val (.int p0), .val (.int p1), .val (.int p2), .val (.int p3), .val (.int p4), .val (.int cs), .val (.int wd), .val (.int sd), .val (.int (2 : Int32)), .val (.int dd), .val (.long a0v), .second, .val (.long aN), .second, .val (.long a2v), .second, .val (.long k0v), .second, .val (.long kN), .second, .val (.long k2v), .second, .val (.ref b16), .val .null, .val (.int ok0), .unset, s26, s27, .unset, .unset, .unset, .unset, .unset] [(.int ok1)])) _
      refine XS.istore X27.here hx rfl (hb hby at_395) rfl (l' := #[.val (.int p0), .val (.int p1), .val (.int p2), .val (.int p3), .val (.int p4), .val (.int cs), .val (.int wd), .val (.int sd), .val (.int (2 : Int32)), .val (.int dd), .val (.long a0v), .second, .val (.long aN), .second, .val (.long a2v), .second, .val (.long k0v), .second, .val (.long kN), .second, .val (.long k2v), .second, .val (.ref b16), .val .null, .val (.int ok0), .val (.int ok1), s26, s27, .unset, .unset, .unset, .unset, .unset]) rfl ?_
      refine XS.iload X27.here hx rfl (hb hby at_397) rfl ?_
      refine XS.iconst X27.here hx rfl (hb hby at_399) ?_
      refine XS.icmpYes X27.here hx rfl (pc0 := 400) (pc' := 419) rfl (hb hby at_400) rfl (tlt (by decide)).1 (by decide) (by decide) ?_
      refine XS.iconst X27.here hx rfl (hb hby at_419) ?_
      refine XS.goto X27.here hx rfl (pc0 := 420) (pc' := 424) rfl (hb hby at_420) (by decide) (by decide) ?_
      refine XS.istore X27.here hx rfl (hb hby at_424) rfl (l' := #[.val (.int p0), .val (.int p1), .val (.int p2), .val (.int p3), .val (.int p4), .val (.int cs), .val (.int wd), .val (.int sd), .val (.int (2 : Int32)), .val (.int dd), .val (.long a0v), .second, .val (.long aN), .second, .val (.long a2v), .second, .val (.long k0v), .second, .val (.long kN), .second, .val (.long k2v), .second, .val (.ref b16), .val .null, .val (.int ok0), .val (.int ok1), .val (.int (1 : Int32)), .unset, .unset, .unset, .unset, .unset, .unset]) (by rcases JS26 with ⟨rfl, rfl⟩ | ⟨z, rfl, rfl⟩ <;> rfl) ?_
      refine XS.iload X27.here hx rfl (hb hby at_426) rfl ?_
      refine XS.iconst X27.here hx rfl (hb hby at_428) ?_
      refine XS.icmpNo X27.here hx rfl (hb hby at_429) rfl (flt (by decide)).1 ?_
      refine XS.lload X27.here hx rfl (hb hby at_432) rfl ?_
      refine XS.goto X27.here hx rfl (pc0 := 434) (pc' := 438) rfl (hb hby at_434) (by decide) (by decide) ?_
      refine XS.iload X27.here hx rfl (hb hby at_438) rfl ?_
      refine XS.iconst X27.here hx rfl (hb hby at_440) ?_
      refine XS.icmpNo X27.here hx rfl (hb hby at_441) rfl (flt (by decide)).1 ?_
      refine XS.lload X27.here hx rfl (hb hby at_444) rfl ?_
      refine XS.goto X27.here hx rfl (pc0 := 446) (pc' := 450) rfl (hb hby at_446) (by decide) (by decide) ?_
      refine XS.ladd X27.here hx rfl (hb hby at_450) rfl ?_
      refine XS.iload X27.here hx rfl (hb hby at_451) rfl ?_
      refine XS.iconst X27.here hx rfl (hb hby at_453) ?_
      refine XS.icmpYes X27.here hx rfl (pc0 := 454) (pc' := 462) rfl (hb hby at_454) rfl (tlt (by decide)).1 (by decide) (by decide) ?_
      refine XS.lconst X27.here hx rfl (hb hby at_462) ?_
      refine XS.ladd X27.here hx rfl (hb hby at_463) rfl ?_
      refine XS.lstore X27.here hx rfl (hb hby at_464) rfl (l' := #[.val (.int p0), .val (.int p1), .val (.int p2), .val (.int p3), .val (.int p4), .val (.int cs), .val (.int wd), .val (.int sd), .val (.int (2 : Int32)), .val (.int dd), .val (.long a0v), .second, .val (.long aN), .second, .val (.long a2v), .second, .val (.long k0v), .second, .val (.long kN), .second, .val (.long k2v), .second, .val (.ref b16), .val .null, .val (.int ok0), .val (.int ok1), .val (.int (1 : Int32)), .val (.long ((k0v + kN) + (0 : Int64))), .second, .unset, .unset, .unset, .unset]) rfl ?_
      refine XS.iload X27.here hx rfl (hb hby at_466) rfl ?_
      exact k
    by_cases hc468_46 : ok0 = (0 : Int32)
    ·
      have a47 : ∀ t, Steps p.tables e below (T27.setTop (mkF m 512 #[.val (.int p0), .val (.int p1), .val (.int p2), .val (.int p3), .val (.int p4), .val (.int cs), .val (.int wd), .val (.int sd), .val (.int (2 : Int32)), .val (.int dd), .val (.long a0v), .second, .val (.long aN), .second, .val (.long a2v), .second, .val (.long k0v), .second, .val (.long kN), .second, .val (.long k2v), .second, .val (.ref b16), .val .null, .val (.int ok0), .val (.int ok1), .val (.int (1 : Int32)), .val (.long ((k0v + kN) + (0 : Int64))), .second, .val (.int (0 : Int32)), .unset, .unset, .unset] [(.int (1 : Int32))])) t → Steps p.tables e below (s₁.setTop (mkF m 130 #[.val (.int p0), .val (.int p1), .val (.int p2), .val (.int p3), .val (.int p4), .val (.int cs), .val (.int wd), .val (.int sd), .val (.int (2 : Int32)), .val (.int dd), .val (.long a0v), .second, .val (.long a1v), .second, .val (.long a2v), .second, .val (.long k0v), .second, .val (.long k1v), .second, .val (.long k2v), .second, .unset, .unset, .unset, .unset, .unset, .unset, .unset, .unset, .unset, .unset, .unset] [])) t := by
        intro t k
        refine a45 t ?_
        show Steps p.tables e below (T27.setTop (mkF m 468 #[.val (.int p0), .val (.int p1), .val (.int p2), .val (.int p3), .val (.int p4), .val (.int cs), .val (.int wd), .val (.int sd), .val (.int (2 : Int32)), .val (.int dd), .val (.long a0v), .second, .val (.long aN), .second, .val (.long a2v), .second, .val (.long k0v), .second, .val (.long kN), .second, .val (.long k2v), .second, .val (.ref b16), .val .null, .val (.int ok0), .val (.int ok1), .val (.int (1 : Int32)), .val (.long ((k0v + kN) + (0 : Int64))), .second, .unset, .unset, .unset, .unset] [(.int ok0)])) _
        refine XS.ifYes X27.here hx rfl (pc0 := 468) (pc' := 494) rfl (hb hby at_468) rfl ((if0 _ _).trans (teq hc468_46).1) (by decide) (by decide) ?_
        refine XS.iconst X27.here hx rfl (hb hby at_494) ?_
        refine XS.istore X27.here hx rfl (hb hby at_495) rfl (l' := #[.val (.int p0), .val (.int p1), .val (.int p2), .val (.int p3), .val (.int p4), .val (.int cs), .val (.int wd), .val (.int sd), .val (.int (2 : Int32)), .val (.int dd), .val (.long a0v), .second, .val (.long aN), .second, .val (.long a2v), .second, .val (.long k0v), .second, .val (.long kN), .second, .val (.long k2v), .second, .val (.ref b16), .val .null, .val (.int ok0), .val (.int ok1), .val (.int (1 : Int32)), .val (.long ((k0v + kN) + (0 : Int64))), .second, .val (.int (0 : Int32)), .unset, .unset, .unset]) rfl ?_
        refine XS.iload X27.here hx rfl (hb hby at_497) rfl ?_
        refine XS.ifNo X27.here hx rfl (hb hby at_499) rfl ((if0 _ _).trans (teq (by decide)).2) ?_
        refine XS.aload X27.here hx rfl (hb hby at_502) rfl rfl ?_
        refine XS.ifnonnullNo X27.here hx rfl (hb hby at_504) rfl ?_
        refine XS.iconst X27.here hx rfl (hb hby at_507) ?_
        refine XS.goto X27.here hx rfl (pc0 := 508) (pc' := 512) rfl (hb hby at_508) (by decide) (by decide) ?_
        exact k
      obtain ⟨fs, hr, hrun, hended, hW, hsame⟩ := X27.leave (v := some (.int (1 : Int32))) (fun h => by rw [Bd.returns] at h; cases h)
      refine ⟨_, _, a47 _ ?_, hrun, hended, _, _, rfl, ?_, ⟨_, rfl⟩, hW, hsame.mono (by decide) (by decide)⟩
      · show Steps p.tables e below (T27.setTop (mkF m 512 #[.val (.int p0), .val (.int p1), .val (.int p2), .val (.int p3), .val (.int p4), .val (.int cs), .val (.int wd), .val (.int sd), .val (.int (2 : Int32)), .val (.int dd), .val (.long a0v), .second, .val (.long aN), .second, .val (.long a2v), .second, .val (.long k0v), .second, .val (.long kN), .second, .val (.long k2v), .second, .val (.ref b16), .val .null, .val (.int ok0), .val (.int ok1), .val (.int (1 : Int32)), .val (.long ((k0v + kN) + (0 : Int64))), .second, .val (.int (0 : Int32)), .unset, .unset, .unset] [(.int (1 : Int32))])) _
        exact retN X27 hx (t := .boolean) Bd.returns (by simp) (hb hby at_512) hr
      · show Q0 Z p0 p1 p2 p3 p4 h0 n0 _ T27.heap _
        exact ⟨rfl, N27⟩
    ·
      have a48 : ∀ t, Steps p.tables e below (T27.setTop (mkF m 473 #[.val (.int p0), .val (.int p1), .val (.int p2), .val (.int p3), .val (.int p4), .val (.int cs), .val (.int wd), .val (.int sd), .val (.int (2 : Int32)), .val (.int dd), .val (.long a0v), .second, .val (.long aN), .second, .val (.long a2v), .second, .val (.long k0v), .second, .val (.long kN), .second, .val (.long k2v), .second, .val (.ref b16), .val .null, .val (.int ok0), .val (.int ok1), .val (.int (1 : Int32)), .val (.long ((k0v + kN) + (0 : Int64))), .second, .unset, .unset, .unset, .unset] [(.int ok1)])) t → Steps p.tables e below (s₁.setTop (mkF m 130 #[.val (.int p0), .val (.int p1), .val (.int p2), .val (.int p3), .val (.int p4), .val (.int cs), .val (.int wd), .val (.int sd), .val (.int (2 : Int32)), .val (.int dd), .val (.long a0v), .second, .val (.long a1v), .second, .val (.long a2v), .second, .val (.long k0v), .second, .val (.long k1v), .second, .val (.long k2v), .second, .unset, .unset, .unset, .unset, .unset, .unset, .unset, .unset, .unset, .unset, .unset] [])) t := by
        intro t k
        refine a45 t ?_
        show Steps p.tables e below (T27.setTop (mkF m 468 #[.val (.int p0), .val (.int p1), .val (.int p2), .val (.int p3), .val (.int p4), .val (.int cs), .val (.int wd), .val (.int sd), .val (.int (2 : Int32)), .val (.int dd), .val (.long a0v), .second, .val (.long aN), .second, .val (.long a2v), .second, .val (.long k0v), .second, .val (.long kN), .second, .val (.long k2v), .second, .val (.ref b16), .val .null, .val (.int ok0), .val (.int ok1), .val (.int (1 : Int32)), .val (.long ((k0v + kN) + (0 : Int64))), .second, .unset, .unset, .unset, .unset] [(.int ok0)])) _
        refine XS.ifNo X27.here hx rfl (hb hby at_468) rfl ((if0 _ _).trans (feq hc468_46).1) ?_
        refine XS.iload X27.here hx rfl (hb hby at_471) rfl ?_
        exact k
      by_cases hc473_49 : ok1 = (0 : Int32)
      ·
        have a50 : ∀ t, Steps p.tables e below (T27.setTop (mkF m 512 #[.val (.int p0), .val (.int p1), .val (.int p2), .val (.int p3), .val (.int p4), .val (.int cs), .val (.int wd), .val (.int sd), .val (.int (2 : Int32)), .val (.int dd), .val (.long a0v), .second, .val (.long aN), .second, .val (.long a2v), .second, .val (.long k0v), .second, .val (.long kN), .second, .val (.long k2v), .second, .val (.ref b16), .val .null, .val (.int ok0), .val (.int ok1), .val (.int (1 : Int32)), .val (.long ((k0v + kN) + (0 : Int64))), .second, .val (.int (0 : Int32)), .unset, .unset, .unset] [(.int (1 : Int32))])) t → Steps p.tables e below (s₁.setTop (mkF m 130 #[.val (.int p0), .val (.int p1), .val (.int p2), .val (.int p3), .val (.int p4), .val (.int cs), .val (.int wd), .val (.int sd), .val (.int (2 : Int32)), .val (.int dd), .val (.long a0v), .second, .val (.long a1v), .second, .val (.long a2v), .second, .val (.long k0v), .second, .val (.long k1v), .second, .val (.long k2v), .second, .unset, .unset, .unset, .unset, .unset, .unset, .unset, .unset, .unset, .unset, .unset] [])) t := by
          intro t k
          refine a48 t ?_
          show Steps p.tables e below (T27.setTop (mkF m 473 #[.val (.int p0), .val (.int p1), .val (.int p2), .val (.int p3), .val (.int p4), .val (.int cs), .val (.int wd), .val (.int sd), .val (.int (2 : Int32)), .val (.int dd), .val (.long a0v), .second, .val (.long aN), .second, .val (.long a2v), .second, .val (.long k0v), .second, .val (.long kN), .second, .val (.long k2v), .second, .val (.ref b16), .val .null, .val (.int ok0), .val (.int ok1), .val (.int (1 : Int32)), .val (.long ((k0v + kN) + (0 : Int64))), .second, .unset, .unset, .unset, .unset] [(.int ok1)])) _
          refine XS.ifYes X27.here hx rfl (pc0 := 473) (pc' := 494) rfl (hb hby at_473) rfl ((if0 _ _).trans (teq hc473_49).1) (by decide) (by decide) ?_
          refine XS.iconst X27.here hx rfl (hb hby at_494) ?_
          refine XS.istore X27.here hx rfl (hb hby at_495) rfl (l' := #[.val (.int p0), .val (.int p1), .val (.int p2), .val (.int p3), .val (.int p4), .val (.int cs), .val (.int wd), .val (.int sd), .val (.int (2 : Int32)), .val (.int dd), .val (.long a0v), .second, .val (.long aN), .second, .val (.long a2v), .second, .val (.long k0v), .second, .val (.long kN), .second, .val (.long k2v), .second, .val (.ref b16), .val .null, .val (.int ok0), .val (.int ok1), .val (.int (1 : Int32)), .val (.long ((k0v + kN) + (0 : Int64))), .second, .val (.int (0 : Int32)), .unset, .unset, .unset]) rfl ?_
          refine XS.iload X27.here hx rfl (hb hby at_497) rfl ?_
          refine XS.ifNo X27.here hx rfl (hb hby at_499) rfl ((if0 _ _).trans (teq (by decide)).2) ?_
          refine XS.aload X27.here hx rfl (hb hby at_502) rfl rfl ?_
          refine XS.ifnonnullNo X27.here hx rfl (hb hby at_504) rfl ?_
          refine XS.iconst X27.here hx rfl (hb hby at_507) ?_
          refine XS.goto X27.here hx rfl (pc0 := 508) (pc' := 512) rfl (hb hby at_508) (by decide) (by decide) ?_
          exact k
        obtain ⟨fs, hr, hrun, hended, hW, hsame⟩ := X27.leave (v := some (.int (1 : Int32))) (fun h => by rw [Bd.returns] at h; cases h)
        refine ⟨_, _, a50 _ ?_, hrun, hended, _, _, rfl, ?_, ⟨_, rfl⟩, hW, hsame.mono (by decide) (by decide)⟩
        · show Steps p.tables e below (T27.setTop (mkF m 512 #[.val (.int p0), .val (.int p1), .val (.int p2), .val (.int p3), .val (.int p4), .val (.int cs), .val (.int wd), .val (.int sd), .val (.int (2 : Int32)), .val (.int dd), .val (.long a0v), .second, .val (.long aN), .second, .val (.long a2v), .second, .val (.long k0v), .second, .val (.long kN), .second, .val (.long k2v), .second, .val (.ref b16), .val .null, .val (.int ok0), .val (.int ok1), .val (.int (1 : Int32)), .val (.long ((k0v + kN) + (0 : Int64))), .second, .val (.int (0 : Int32)), .unset, .unset, .unset] [(.int (1 : Int32))])) _
          exact retN X27 hx (t := .boolean) Bd.returns (by simp) (hb hby at_512) hr
        · show Q0 Z p0 p1 p2 p3 p4 h0 n0 _ T27.heap _
          exact ⟨rfl, N27⟩
      ·
        have a51 : ∀ t, Steps p.tables e below (T27.setTop (mkF m 512 #[.val (.int p0), .val (.int p1), .val (.int p2), .val (.int p3), .val (.int p4), .val (.int cs), .val (.int wd), .val (.int sd), .val (.int (2 : Int32)), .val (.int dd), .val (.long a0v), .second, .val (.long aN), .second, .val (.long a2v), .second, .val (.long k0v), .second, .val (.long kN), .second, .val (.long k2v), .second, .val (.ref b16), .val .null, .val (.int ok0), .val (.int ok1), .val (.int (1 : Int32)), .val (.long ((k0v + kN) + (0 : Int64))), .second, .val (.int (0 : Int32)), .unset, .unset, .unset] [(.int (1 : Int32))])) t → Steps p.tables e below (s₁.setTop (mkF m 130 #[.val (.int p0), .val (.int p1), .val (.int p2), .val (.int p3), .val (.int p4), .val (.int cs), .val (.int wd), .val (.int sd), .val (.int (2 : Int32)), .val (.int dd), .val (.long a0v), .second, .val (.long a1v), .second, .val (.long a2v), .second, .val (.long k0v), .second, .val (.long k1v), .second, .val (.long k2v), .second, .unset, .unset, .unset, .unset, .unset, .unset, .unset, .unset, .unset, .unset, .unset] [])) t := by
          intro t k
          refine a48 t ?_
          show Steps p.tables e below (T27.setTop (mkF m 473 #[.val (.int p0), .val (.int p1), .val (.int p2), .val (.int p3), .val (.int p4), .val (.int cs), .val (.int wd), .val (.int sd), .val (.int (2 : Int32)), .val (.int dd), .val (.long a0v), .second, .val (.long aN), .second, .val (.long a2v), .second, .val (.long k0v), .second, .val (.long kN), .second, .val (.long k2v), .second, .val (.ref b16), .val .null, .val (.int ok0), .val (.int ok1), .val (.int (1 : Int32)), .val (.long ((k0v + kN) + (0 : Int64))), .second, .unset, .unset, .unset, .unset] [(.int ok1)])) _
          refine XS.ifNo X27.here hx rfl (hb hby at_473) rfl ((if0 _ _).trans (feq hc473_49).1) ?_
          refine XS.iload X27.here hx rfl (hb hby at_476) rfl ?_
          refine XS.ifNo X27.here hx rfl (hb hby at_478) rfl ((if0 _ _).trans (feq (by decide)).1) ?_
          refine XS.lload X27.here hx rfl (hb hby at_481) rfl ?_
          refine XS.iload X27.here hx rfl (hb hby at_483) rfl ?_
          refine XS.i2l X27.here hx rfl (hb hby at_485) rfl ?_
          refine XS.lcmp X27.here hx rfl (hb hby at_486) rfl ?_
          refine XS.ifYes X27.here hx rfl (pc0 := 487) (pc' := 494) rfl (hb hby at_487) rfl ((if0 _ _).trans (feq (fun q => (fun q => G27 ⟨(own_yes JO0 hc468_46), (own_yes JO1 hc473_49), by have e := congrArg Int64.toInt q; rw [c_i2l, own_s2 hdd (own_yes JO0 hc468_46) (own_yes JO1 hc473_49)] at e; exact e⟩) ((lw_eq ((k0v + kN) + (0 : Int64)) (dd.toInt64)).mp q))).2) (by decide) (by decide) ?_
          refine XS.iconst X27.here hx rfl (hb hby at_494) ?_
          refine XS.istore X27.here hx rfl (hb hby at_495) rfl (l' := #[.val (.int p0), .val (.int p1), .val (.int p2), .val (.int p3), .val (.int p4), .val (.int cs), .val (.int wd), .val (.int sd), .val (.int (2 : Int32)), .val (.int dd), .val (.long a0v), .second, .val (.long aN), .second, .val (.long a2v), .second, .val (.long k0v), .second, .val (.long kN), .second, .val (.long k2v), .second, .val (.ref b16), .val .null, .val (.int ok0), .val (.int ok1), .val (.int (1 : Int32)), .val (.long ((k0v + kN) + (0 : Int64))), .second, .val (.int (0 : Int32)), .unset, .unset, .unset]) rfl ?_
          refine XS.iload X27.here hx rfl (hb hby at_497) rfl ?_
          refine XS.ifNo X27.here hx rfl (hb hby at_499) rfl ((if0 _ _).trans (teq (by decide)).2) ?_
          refine XS.aload X27.here hx rfl (hb hby at_502) rfl rfl ?_
          refine XS.ifnonnullNo X27.here hx rfl (hb hby at_504) rfl ?_
          refine XS.iconst X27.here hx rfl (hb hby at_507) ?_
          refine XS.goto X27.here hx rfl (pc0 := 508) (pc' := 512) rfl (hb hby at_508) (by decide) (by decide) ?_
          exact k
        obtain ⟨fs, hr, hrun, hended, hW, hsame⟩ := X27.leave (v := some (.int (1 : Int32))) (fun h => by rw [Bd.returns] at h; cases h)
        refine ⟨_, _, a51 _ ?_, hrun, hended, _, _, rfl, ?_, ⟨_, rfl⟩, hW, hsame.mono (by decide) (by decide)⟩
        · show Steps p.tables e below (T27.setTop (mkF m 512 #[.val (.int p0), .val (.int p1), .val (.int p2), .val (.int p3), .val (.int p4), .val (.int cs), .val (.int wd), .val (.int sd), .val (.int (2 : Int32)), .val (.int dd), .val (.long a0v), .second, .val (.long aN), .second, .val (.long a2v), .second, .val (.long k0v), .second, .val (.long kN), .second, .val (.long k2v), .second, .val (.ref b16), .val .null, .val (.int ok0), .val (.int ok1), .val (.int (1 : Int32)), .val (.long ((k0v + kN) + (0 : Int64))), .second, .val (.int (0 : Int32)), .unset, .unset, .unset] [(.int (1 : Int32))])) _
          exact retN X27 hx (t := .boolean) Bd.returns (by simp) (hb hby at_512) hr
        · show Q0 Z p0 p1 p2 p3 p4 h0 n0 _ T27.heap _
          exact ⟨rfl, N27⟩
  ·
    have N27 := Fr.app N24 N27q
    have KK27 : Keep h0 T27.heap [] := Keep.trans K24 K27q all0
    have a52 : ∀ t, Steps p.tables e below (T27.setTop (mkF m 337 #[.val (.int p0), .val (.int p1), .val (.int p2), .val (.int p3), .val (.int p4), .val (.int cs), .val (.int wd), .val (.int sd), .val (.int (2 : Int32)), .val (.int dd), .val (.long a0v), .second, .val (.long aN), .second, .val (.long a2v), .second, .val (.long k0v), .second, .val (.long kN), .second, .val (.long k2v), .second, .val (.ref b16), .unset, s24, s25, s26, s27, .unset, .unset, .unset, .unset, .unset] [(.ref rb27)])) t → Steps p.tables e below (s₁.setTop (mkF m 130 #[.val (.int p0), .val (.int p1), .val (.int p2), .val (.int p3), .val (.int p4), .val (.int cs), .val (.int wd), .val (.int sd), .val (.int (2 : Int32)), .val (.int dd), .val (.long a0v), .second, .val (.long a1v), .second, .val (.long a2v), .second, .val (.long k0v), .second, .val (.long k1v), .second, .val (.long k2v), .second, .unset, .unset, .unset, .unset, .unset, .unset, .unset, .unset, .unset, .unset, .unset] [])) t := fun t k => a26 t (st27 t k)
    have a53 : ∀ t, Steps p.tables e below (T27.setTop (mkF m 349 #[.val (.int p0), .val (.int p1), .val (.int p2), .val (.int p3), .val (.int p4), .val (.int cs), .val (.int wd), .val (.int sd), .val (.int (2 : Int32)), .val (.int dd), .val (.long a0v), .second, .val (.long aN), .second, .val (.long a2v), .second, .val (.long k0v), .second, .val (.long kN), .second, .val (.long k2v), .second, .val (.ref b16), .val (.ref rb27), s24, s25, s26, s27, .unset, .unset, .unset, .unset, .unset] [(.int (lcmpW k0v (0 : Int64)))])) t → Steps p.tables e below (s₁.setTop (mkF m 130 #[.val (.int p0), .val (.int p1), .val (.int p2), .val (.int p3), .val (.int p4), .val (.int cs), .val (.int wd), .val (.int sd), .val (.int (2 : Int32)), .val (.int dd), .val (.long a0v), .second, .val (.long a1v), .second, .val (.long a2v), .second, .val (.long k0v), .second, .val (.long k1v), .second, .val (.long k2v), .second, .unset, .unset, .unset, .unset, .unset, .unset, .unset, .unset, .unset, .unset, .unset] [])) t := by
      intro t k
      refine a52 t ?_
      show Steps p.tables e below (T27.setTop (mkF m 337 #[.val (.int p0), .val (.int p1), .val (.int p2), .val (.int p3), .val (.int p4), .val (.int cs), .val (.int wd), .val (.int sd), .val (.int (2 : Int32)), .val (.int dd), .val (.long a0v), .second, .val (.long aN), .second, .val (.long a2v), .second, .val (.long k0v), .second, .val (.long kN), .second, .val (.long k2v), .second, .val (.ref b16), .unset, s24, s25, s26, s27, .unset, .unset, .unset, .unset, .unset] [(.ref rb27)])) _
      refine XS.astore X27.here hx rfl (hb hby at_337) rfl rfl (l' := #[.val (.int p0), .val (.int p1), .val (.int p2), .val (.int p3), .val (.int p4), .val (.int cs), .val (.int wd), .val (.int sd), .val (.int (2 : Int32)), .val (.int dd), .val (.long a0v), .second, .val (.long aN), .second, .val (.long a2v), .second, .val (.long k0v), .second, .val (.long kN), .second, .val (.long k2v), .second, .val (.ref b16), .val (.ref rb27), s24, s25, s26, s27, .unset, .unset, .unset, .unset, .unset]) rfl ?_
      refine XS.iload X27.here hx rfl (hb hby at_339) rfl ?_
      refine XS.iconst X27.here hx rfl (hb hby at_341) ?_
      refine XS.icmpNo X27.here hx rfl (hb hby at_342) rfl (flt (by decide)).1 ?_
      refine XS.lload X27.here hx rfl (hb hby at_345) rfl ?_
      refine XS.lconst X27.here hx rfl (hb hby at_347) ?_
      refine XS.lcmp X27.here hx rfl (hb hby at_348) rfl ?_
      exact k
    obtain ⟨ok0, JO0, a60⟩ : ∃ (ok0 : Int32), ((ok0 = 1 ∧ OwnOk k0v dd) ∨ (ok0 = 0 ∧ ¬ OwnOk k0v dd)) ∧ ∀ t, Steps p.tables e below (T27.setTop (mkF m 366 #[.val (.int p0), .val (.int p1), .val (.int p2), .val (.int p3), .val (.int p4), .val (.int cs), .val (.int wd), .val (.int sd), .val (.int (2 : Int32)), .val (.int dd), .val (.long a0v), .second, .val (.long aN), .second, .val (.long a2v), .second, .val (.long k0v), .second, .val (.long kN), .second, .val (.long k2v), .second, .val (.ref b16), .val (.ref rb27), s24, s25, s26, s27, .unset, .unset, .unset, .unset, .unset] [(.int ok0)])) t → Steps p.tables e below (s₁.setTop (mkF m 130 #[.val (.int p0), .val (.int p1), .val (.int p2), .val (.int p3), .val (.int p4), .val (.int cs), .val (.int wd), .val (.int sd), .val (.int (2 : Int32)), .val (.int dd), .val (.long a0v), .second, .val (.long a1v), .second, .val (.long a2v), .second, .val (.long k0v), .second, .val (.long k1v), .second, .val (.long k2v), .second, .unset, .unset, .unset, .unset, .unset, .unset, .unset, .unset, .unset, .unset, .unset] [])) t := by
      by_cases hc349_54 : k0v < (0 : Int64)
      ·
        have a55 : ∀ t, Steps p.tables e below (T27.setTop (mkF m 366 #[.val (.int p0), .val (.int p1), .val (.int p2), .val (.int p3), .val (.int p4), .val (.int cs), .val (.int wd), .val (.int sd), .val (.int (2 : Int32)), .val (.int dd), .val (.long a0v), .second, .val (.long aN), .second, .val (.long a2v), .second, .val (.long k0v), .second, .val (.long kN), .second, .val (.long k2v), .second, .val (.ref b16), .val (.ref rb27), s24, s25, s26, s27, .unset, .unset, .unset, .unset, .unset] [(.int (0 : Int32))])) t → Steps p.tables e below (s₁.setTop (mkF m 130 #[.val (.int p0), .val (.int p1), .val (.int p2), .val (.int p3), .val (.int p4), .val (.int cs), .val (.int wd), .val (.int sd), .val (.int (2 : Int32)), .val (.int dd), .val (.long a0v), .second, .val (.long a1v), .second, .val (.long a2v), .second, .val (.long k0v), .second, .val (.long k1v), .second, .val (.long k2v), .second, .unset, .unset, .unset, .unset, .unset, .unset, .unset, .unset, .unset, .unset, .unset] [])) t := by
          intro t k
          refine a53 t ?_
          show Steps p.tables e below (T27.setTop (mkF m 349 #[.val (.int p0), .val (.int p1), .val (.int p2), .val (.int p3), .val (.int p4), .val (.int cs), .val (.int wd), .val (.int sd), .val (.int (2 : Int32)), .val (.int dd), .val (.long a0v), .second, .val (.long aN), .second, .val (.long a2v), .second, .val (.long k0v), .second, .val (.long kN), .second, .val (.long k2v), .second, .val (.ref b16), .val (.ref rb27), s24, s25, s26, s27, .unset, .unset, .unset, .unset, .unset] [(.int (lcmpW k0v (0 : Int64)))])) _
          refine XS.ifYes X27.here hx rfl (pc0 := 349) (pc' := 365) rfl (hb hby at_349) rfl ((if0 _ _).trans (tlt ((lw_lt k0v (0 : Int64)).mpr hc349_54)).1) (by decide) (by decide) ?_
          refine XS.iconst X27.here hx rfl (hb hby at_365) ?_
          exact k
        exact ⟨(0 : Int32), Or.inr ⟨rfl, own_not_ok (Or.inl hc349_54)⟩, a55⟩
      ·
        have a56 : ∀ t, Steps p.tables e below (T27.setTop (mkF m 358 #[.val (.int p0), .val (.int p1), .val (.int p2), .val (.int p3), .val (.int p4), .val (.int cs), .val (.int wd), .val (.int sd), .val (.int (2 : Int32)), .val (.int dd), .val (.long a0v), .second, .val (.long aN), .second, .val (.long a2v), .second, .val (.long k0v), .second, .val (.long kN), .second, .val (.long k2v), .second, .val (.ref b16), .val (.ref rb27), s24, s25, s26, s27, .unset, .unset, .unset, .unset, .unset] [(.int (lcmpW k0v (dd.toInt64)))])) t → Steps p.tables e below (s₁.setTop (mkF m 130 #[.val (.int p0), .val (.int p1), .val (.int p2), .val (.int p3), .val (.int p4), .val (.int cs), .val (.int wd), .val (.int sd), .val (.int (2 : Int32)), .val (.int dd), .val (.long a0v), .second, .val (.long a1v), .second, .val (.long a2v), .second, .val (.long k0v), .second, .val (.long k1v), .second, .val (.long k2v), .second, .unset, .unset, .unset, .unset, .unset, .unset, .unset, .unset, .unset, .unset, .unset] [])) t := by
          intro t k
          refine a53 t ?_
          show Steps p.tables e below (T27.setTop (mkF m 349 #[.val (.int p0), .val (.int p1), .val (.int p2), .val (.int p3), .val (.int p4), .val (.int cs), .val (.int wd), .val (.int sd), .val (.int (2 : Int32)), .val (.int dd), .val (.long a0v), .second, .val (.long aN), .second, .val (.long a2v), .second, .val (.long k0v), .second, .val (.long kN), .second, .val (.long k2v), .second, .val (.ref b16), .val (.ref rb27), s24, s25, s26, s27, .unset, .unset, .unset, .unset, .unset] [(.int (lcmpW k0v (0 : Int64)))])) _
          refine XS.ifNo X27.here hx rfl (hb hby at_349) rfl ((if0 _ _).trans (flt (fun q => hc349_54 ((lw_lt k0v (0 : Int64)).mp q))).1) ?_
          refine XS.lload X27.here hx rfl (hb hby at_352) rfl ?_
          refine XS.iload X27.here hx rfl (hb hby at_354) rfl ?_
          refine XS.i2l X27.here hx rfl (hb hby at_356) rfl ?_
          refine XS.lcmp X27.here hx rfl (hb hby at_357) rfl ?_
          exact k
        by_cases hc358_57 : (dd.toInt64) < k0v
        ·
          have a58 : ∀ t, Steps p.tables e below (T27.setTop (mkF m 366 #[.val (.int p0), .val (.int p1), .val (.int p2), .val (.int p3), .val (.int p4), .val (.int cs), .val (.int wd), .val (.int sd), .val (.int (2 : Int32)), .val (.int dd), .val (.long a0v), .second, .val (.long aN), .second, .val (.long a2v), .second, .val (.long k0v), .second, .val (.long kN), .second, .val (.long k2v), .second, .val (.ref b16), .val (.ref rb27), s24, s25, s26, s27, .unset, .unset, .unset, .unset, .unset] [(.int (0 : Int32))])) t → Steps p.tables e below (s₁.setTop (mkF m 130 #[.val (.int p0), .val (.int p1), .val (.int p2), .val (.int p3), .val (.int p4), .val (.int cs), .val (.int wd), .val (.int sd), .val (.int (2 : Int32)), .val (.int dd), .val (.long a0v), .second, .val (.long a1v), .second, .val (.long a2v), .second, .val (.long k0v), .second, .val (.long k1v), .second, .val (.long k2v), .second, .unset, .unset, .unset, .unset, .unset, .unset, .unset, .unset, .unset, .unset, .unset] [])) t := by
            intro t k
            refine a56 t ?_
            show Steps p.tables e below (T27.setTop (mkF m 358 #[.val (.int p0), .val (.int p1), .val (.int p2), .val (.int p3), .val (.int p4), .val (.int cs), .val (.int wd), .val (.int sd), .val (.int (2 : Int32)), .val (.int dd), .val (.long a0v), .second, .val (.long aN), .second, .val (.long a2v), .second, .val (.long k0v), .second, .val (.long kN), .second, .val (.long k2v), .second, .val (.ref b16), .val (.ref rb27), s24, s25, s26, s27, .unset, .unset, .unset, .unset, .unset] [(.int (lcmpW k0v (dd.toInt64)))])) _
            refine XS.ifYes X27.here hx rfl (pc0 := 358) (pc' := 365) rfl (hb hby at_358) rfl ((if0 _ _).trans (tlt ((lw_gt k0v (dd.toInt64)).mpr hc358_57)).2.2.1) (by decide) (by decide) ?_
            refine XS.iconst X27.here hx rfl (hb hby at_365) ?_
            exact k
          exact ⟨(0 : Int32), Or.inr ⟨rfl, own_not_ok (Or.inr hc358_57)⟩, a58⟩
        ·
          have a59 : ∀ t, Steps p.tables e below (T27.setTop (mkF m 366 #[.val (.int p0), .val (.int p1), .val (.int p2), .val (.int p3), .val (.int p4), .val (.int cs), .val (.int wd), .val (.int sd), .val (.int (2 : Int32)), .val (.int dd), .val (.long a0v), .second, .val (.long aN), .second, .val (.long a2v), .second, .val (.long k0v), .second, .val (.long kN), .second, .val (.long k2v), .second, .val (.ref b16), .val (.ref rb27), s24, s25, s26, s27, .unset, .unset, .unset, .unset, .unset] [(.int (1 : Int32))])) t → Steps p.tables e below (s₁.setTop (mkF m 130 #[.val (.int p0), .val (.int p1), .val (.int p2), .val (.int p3), .val (.int p4), .val (.int cs), .val (.int wd), .val (.int sd), .val (.int (2 : Int32)), .val (.int dd), .val (.long a0v), .second, .val (.long a1v), .second, .val (.long a2v), .second, .val (.long k0v), .second, .val (.long k1v), .second, .val (.long k2v), .second, .unset, .unset, .unset, .unset, .unset, .unset, .unset, .unset, .unset, .unset, .unset] [])) t := by
            intro t k
            refine a56 t ?_
            show Steps p.tables e below (T27.setTop (mkF m 358 #[.val (.int p0), .val (.int p1), .val (.int p2), .val (.int p3), .val (.int p4), .val (.int cs), .val (.int wd), .val (.int sd), .val (.int (2 : Int32)), .val (.int dd), .val (.long a0v), .second, .val (.long aN), .second, .val (.long a2v), .second, .val (.long k0v), .second, .val (.long kN), .second, .val (.long k2v), .second, .val (.ref b16), .val (.ref rb27), s24, s25, s26, s27, .unset, .unset, .unset, .unset, .unset] [(.int (lcmpW k0v (dd.toInt64)))])) _
            refine XS.ifNo X27.here hx rfl (hb hby at_358) rfl ((if0 _ _).trans (flt (fun q => hc358_57 ((lw_gt k0v (dd.toInt64)).mp q))).2.2.1) ?_
            refine XS.iconst X27.here hx rfl (hb hby at_361) ?_
            refine XS.goto X27.here hx rfl (pc0 := 362) (pc' := 366) rfl (hb hby at_362) (by decide) (by decide) ?_
            exact k
          exact ⟨(1 : Int32), Or.inl ⟨rfl, own_is_ok hc349_54 hc358_57⟩, a59⟩
    have a61 : ∀ t, Steps p.tables e below (T27.setTop (mkF m 378 #[.val (.int p0), .val (.int p1), .val (.int p2), .val (.int p3), .val (.int p4), .val (.int cs), .val (.int wd), .val (.int sd), .val (.int (2 : Int32)), .val (.int dd), .val (.long a0v), .second, .val (.long aN), .second, .val (.long a2v), .second, .val (.long k0v), .second, .val (.long kN), .second, .val (.long k2v), .second, .val (.ref b16), .val (.ref rb27), .val (.int ok0), .unset, s26, s27, .unset, .unset, .unset, .unset, .unset] [(.int (lcmpW kN (0 : Int64)))])) t → Steps p.tables e below (s₁.setTop (mkF m 130 #[.val (.int p0), .val (.int p1), .val (.int p2), .val (.int p3), .val (.int p4), .val (.int cs), .val (.int wd), .val (.int sd), .val (.int (2 : Int32)), .val (.int dd), .val (.long a0v), .second, .val (.long a1v), .second, .val (.long a2v), .second, .val (.long k0v), .second, .val (.long k1v), .second, .val (.long k2v), .second, .unset, .unset, .unset, .unset, .unset, .unset, .unset, .unset, .unset, .unset, .unset] [])) t := by
      intro t k
      refine a60 t ?_
      show Steps p.tables e below (T27.setTop (mkF m 366 #[.val (.int p0), .val (.int p1), .val (.int p2), .val (.int p3), .val (.int p4), .val (.int cs), .val (.int wd), .val (.int sd), .val (.int (2 : Int32)), .val (.int dd), .val (.long a0v), .second, .val (.long aN), .second, .val (.long a2v), .second, .val (.long k0v), .second, .val (.long kN), .second, .val (.long k2v), .second, .val (.ref b16), .val (.ref rb27), s24, s25, s26, s27, .unset, .unset, .unset, .unset, .unset] [(.int ok0)])) _
      refine XS.istore X27.here hx rfl (hb hby at_366) rfl (l' := #[.val (.int p0), .val (.int p1), .val (.int p2), .val (.int p3), .val (.int p4), .val (.int cs), .val (.int wd), .val (.int sd), .val (.int (2 : Int32)), .val (.int dd), .val (.long a0v), .second, .val (.long aN), .second, .val (.long a2v), .second, .val (.long k0v), .second, .val (.long kN), .second, .val (.long k2v), .second, .val (.ref b16), .val (.ref rb27), .val (.int ok0), .unset, s26, s27, .unset, .unset, .unset, .unset, .unset]) (by rcases JS24 with ⟨rfl, rfl⟩ | ⟨z, rfl, rfl⟩ <;> rfl) ?_
      refine XS.iload X27.here hx rfl (hb hby at_368) rfl ?_
      refine XS.iconst X27.here hx rfl (hb hby at_370) ?_
      refine XS.icmpNo X27.here hx rfl (hb hby at_371) rfl (flt (by decide)).1 ?_
      refine XS.lload X27.here hx rfl (hb hby at_374) rfl ?_
      refine XS.lconst X27.here hx rfl (hb hby at_376) ?_
      refine XS.lcmp X27.here hx rfl (hb hby at_377) rfl ?_
      exact k
    obtain ⟨ok1, JO1, a68⟩ : ∃ (ok1 : Int32), ((ok1 = 1 ∧ OwnOk kN dd) ∨ (ok1 = 0 ∧ ¬ OwnOk kN dd)) ∧ ∀ t, Steps p.tables e below (T27.setTop (mkF m 395 #[.val (.int p0), .val (.int p1), .val (.int p2), .val (.int p3), .val (.int p4), .val (.int cs), .val (.int wd), .val (.int sd), .val (.int (2 : Int32)), .val (.int dd), .val (.long a0v), .second, .val (.long aN), .second, .val (.long a2v), .second, .val (.long k0v), .second, .val (.long kN), .second, .val (.long k2v), .second, .val (.ref b16), .val (.ref rb27), .val (.int ok0), .unset, s26, s27, .unset, .unset, .unset, .unset, .unset] [(.int ok1)])) t → Steps p.tables e below (s₁.setTop (mkF m 130 #[.val (.int p0), .val (.int p1), .val (.int p2), .val (.int p3), .val (.int p4), .val (.int cs), .val (.int wd), .val (.int sd), .val (.int (2 : Int32)), .val (.int dd), .val (.long a0v), .second, .val (.long a1v), .second, .val (.long a2v), .second, .val (.long k0v), .second, .val (.long k1v), .second, .val (.long k2v), .second, .unset, .unset, .unset, .unset, .unset, .unset, .unset, .unset, .unset, .unset, .unset] [])) t := by
      by_cases hc378_62 : kN < (0 : Int64)
      ·
        have a63 : ∀ t, Steps p.tables e below (T27.setTop (mkF m 395 #[.val (.int p0), .val (.int p1), .val (.int p2), .val (.int p3), .val (.int p4), .val (.int cs), .val (.int wd), .val (.int sd), .val (.int (2 : Int32)), .val (.int dd), .val (.long a0v), .second, .val (.long aN), .second, .val (.long a2v), .second, .val (.long k0v), .second, .val (.long kN), .second, .val (.long k2v), .second, .val (.ref b16), .val (.ref rb27), .val (.int ok0), .unset, s26, s27, .unset, .unset, .unset, .unset, .unset] [(.int (0 : Int32))])) t → Steps p.tables e below (s₁.setTop (mkF m 130 #[.val (.int p0), .val (.int p1), .val (.int p2), .val (.int p3), .val (.int p4), .val (.int cs), .val (.int wd), .val (.int sd), .val (.int (2 : Int32)), .val (.int dd), .val (.long a0v), .second, .val (.long a1v), .second, .val (.long a2v), .second, .val (.long k0v), .second, .val (.long k1v), .second, .val (.long k2v), .second, .unset, .unset, .unset, .unset, .unset, .unset, .unset, .unset, .unset, .unset, .unset] [])) t := by
          intro t k
          refine a61 t ?_
          show Steps p.tables e below (T27.setTop (mkF m 378 #[.val (.int p0), .val (.int p1), .val (.int p2), .val (.int p3), .val (.int p4), .val (.int cs), .val (.int wd), .val (.int sd), .val (.int (2 : Int32)), .val (.int dd), .val (.long a0v), .second, .val (.long aN), .second, .val (.long a2v), .second, .val (.long k0v), .second, .val (.long kN), .second, .val (.long k2v), .second, .val (.ref b16), .val (.ref rb27), .val (.int ok0), .unset, s26, s27, .unset, .unset, .unset, .unset, .unset] [(.int (lcmpW kN (0 : Int64)))])) _
          refine XS.ifYes X27.here hx rfl (pc0 := 378) (pc' := 394) rfl (hb hby at_378) rfl ((if0 _ _).trans (tlt ((lw_lt kN (0 : Int64)).mpr hc378_62)).1) (by decide) (by decide) ?_
          refine XS.iconst X27.here hx rfl (hb hby at_394) ?_
          exact k
        exact ⟨(0 : Int32), Or.inr ⟨rfl, own_not_ok (Or.inl hc378_62)⟩, a63⟩
      ·
        have a64 : ∀ t, Steps p.tables e below (T27.setTop (mkF m 387 #[.val (.int p0), .val (.int p1), .val (.int p2), .val (.int p3), .val (.int p4), .val (.int cs), .val (.int wd), .val (.int sd), .val (.int (2 : Int32)), .val (.int dd), .val (.long a0v), .second, .val (.long aN), .second, .val (.long a2v), .second, .val (.long k0v), .second, .val (.long kN), .second, .val (.long k2v), .second, .val (.ref b16), .val (.ref rb27), .val (.int ok0), .unset, s26, s27, .unset, .unset, .unset, .unset, .unset] [(.int (lcmpW kN (dd.toInt64)))])) t → Steps p.tables e below (s₁.setTop (mkF m 130 #[.val (.int p0), .val (.int p1), .val (.int p2), .val (.int p3), .val (.int p4), .val (.int cs), .val (.int wd), .val (.int sd), .val (.int (2 : Int32)), .val (.int dd), .val (.long a0v), .second, .val (.long a1v), .second, .val (.long a2v), .second, .val (.long k0v), .second, .val (.long k1v), .second, .val (.long k2v), .second, .unset, .unset, .unset, .unset, .unset, .unset, .unset, .unset, .unset, .unset, .unset] [])) t := by
          intro t k
          refine a61 t ?_
          show Steps p.tables e below (T27.setTop (mkF m 378 #[.val (.int p0), .val (.int p1), .val (.int p2), .val (.int p3), .val (.int p4), .val (.int cs), .val (.int wd), .val (.int sd), .val (.int (2 : Int32)), .val (.int dd), .val (.long a0v), .second, .val (.long aN), .second, .val (.long a2v), .second, .val (.long k0v), .second, .val (.long kN), .second, .val (.long k2v), .second, .val (.ref b16), .val (.ref rb27), .val (.int ok0), .unset, s26, s27, .unset, .unset, .unset, .unset, .unset] [(.int (lcmpW kN (0 : Int64)))])) _
          refine XS.ifNo X27.here hx rfl (hb hby at_378) rfl ((if0 _ _).trans (flt (fun q => hc378_62 ((lw_lt kN (0 : Int64)).mp q))).1) ?_
          refine XS.lload X27.here hx rfl (hb hby at_381) rfl ?_
          refine XS.iload X27.here hx rfl (hb hby at_383) rfl ?_
          refine XS.i2l X27.here hx rfl (hb hby at_385) rfl ?_
          refine XS.lcmp X27.here hx rfl (hb hby at_386) rfl ?_
          exact k
        by_cases hc387_65 : (dd.toInt64) < kN
        ·
          have a66 : ∀ t, Steps p.tables e below (T27.setTop (mkF m 395 #[.val (.int p0), .val (.int p1), .val (.int p2), .val (.int p3), .val (.int p4), .val (.int cs), .val (.int wd), .val (.int sd), .val (.int (2 : Int32)), .val (.int dd), .val (.long a0v), .second, .val (.long aN), .second, .val (.long a2v), .second, .val (.long k0v), .second, .val (.long kN), .second, .val (.long k2v), .second, .val (.ref b16), .val (.ref rb27), .val (.int ok0), .unset, s26, s27, .unset, .unset, .unset, .unset, .unset] [(.int (0 : Int32))])) t → Steps p.tables e below (s₁.setTop (mkF m 130 #[.val (.int p0), .val (.int p1), .val (.int p2), .val (.int p3), .val (.int p4), .val (.int cs), .val (.int wd), .val (.int sd), .val (.int (2 : Int32)), .val (.int dd), .val (.long a0v), .second, .val (.long a1v), .second, .val (.long a2v), .second, .val (.long k0v), .second, .val (.long k1v), .second, .val (.long k2v), .second, .unset, .unset, .unset, .unset, .unset, .unset, .unset, .unset, .unset, .unset, .unset] [])) t := by
            intro t k
            refine a64 t ?_
            show Steps p.tables e below (T27.setTop (mkF m 387 #[.val (.int p0), .val (.int p1), .val (.int p2), .val (.int p3), .val (.int p4), .val (.int cs), .val (.int wd), .val (.int sd), .val (.int (2 : Int32)), .val (.int dd), .val (.long a0v), .second, .val (.long aN), .second, .val (.long a2v), .second, .val (.long k0v), .second, .val (.long kN), .second, .val (.long k2v), .second, .val (.ref b16), .val (.ref rb27), .val (.int ok0), .unset, s26, s27, .unset, .unset, .unset, .unset, .unset] [(.int (lcmpW kN (dd.toInt64)))])) _
            refine XS.ifYes X27.here hx rfl (pc0 := 387) (pc' := 394) rfl (hb hby at_387) rfl ((if0 _ _).trans (tlt ((lw_gt kN (dd.toInt64)).mpr hc387_65)).2.2.1) (by decide) (by decide) ?_
            refine XS.iconst X27.here hx rfl (hb hby at_394) ?_
            exact k
          exact ⟨(0 : Int32), Or.inr ⟨rfl, own_not_ok (Or.inr hc387_65)⟩, a66⟩
        ·
          have a67 : ∀ t, Steps p.tables e below (T27.setTop (mkF m 395 #[.val (.int p0), .val (.int p1), .val (.int p2), .val (.int p3), .val (.int p4), .val (.int cs), .val (.int wd), .val (.int sd), .val (.int (2 : Int32)), .val (.int dd), .val (.long a0v), .second, .val (.long aN), .second, .val (.long a2v), .second, .val (.long k0v), .second, .val (.long kN), .second, .val (.long k2v), .second, .val (.ref b16), .val (.ref rb27), .val (.int ok0), .unset, s26, s27, .unset, .unset, .unset, .unset, .unset] [(.int (1 : Int32))])) t → Steps p.tables e below (s₁.setTop (mkF m 130 #[.val (.int p0), .val (.int p1), .val (.int p2), .val (.int p3), .val (.int p4), .val (.int cs), .val (.int wd), .val (.int sd), .val (.int (2 : Int32)), .val (.int dd), .val (.long a0v), .second, .val (.long a1v), .second, .val (.long a2v), .second, .val (.long k0v), .second, .val (.long k1v), .second, .val (.long k2v), .second, .unset, .unset, .unset, .unset, .unset, .unset, .unset, .unset, .unset, .unset, .unset] [])) t := by
            intro t k
            refine a64 t ?_
            show Steps p.tables e below (T27.setTop (mkF m 387 #[.val (.int p0), .val (.int p1), .val (.int p2), .val (.int p3), .val (.int p4), .val (.int cs), .val (.int wd), .val (.int sd), .val (.int (2 : Int32)), .val (.int dd), .val (.long a0v), .second, .val (.long aN), .second, .val (.long a2v), .second, .val (.long k0v), .second, .val (.long kN), .second, .val (.long k2v), .second, .val (.ref b16), .val (.ref rb27), .val (.int ok0), .unset, s26, s27, .unset, .unset, .unset, .unset, .unset] [(.int (lcmpW kN (dd.toInt64)))])) _
            refine XS.ifNo X27.here hx rfl (hb hby at_387) rfl ((if0 _ _).trans (flt (fun q => hc387_65 ((lw_gt kN (dd.toInt64)).mp q))).2.2.1) ?_
            refine XS.iconst X27.here hx rfl (hb hby at_390) ?_
            refine XS.goto X27.here hx rfl (pc0 := 391) (pc' := 395) rfl (hb hby at_391) (by decide) (by decide) ?_
            exact k
          exact ⟨(1 : Int32), Or.inl ⟨rfl, own_is_ok hc378_62 hc387_65⟩, a67⟩
    have a69 : ∀ t, Steps p.tables e below (T27.setTop (mkF m 520 #[.val (.int p0), .val (.int p1), .val (.int p2), .val (.int p3), .val (.int p4), .val (.int cs), .val (.int wd), .val (.int sd), .val (.int (2 : Int32)), .val (.int dd), .val (.long a0v), .second, .val (.long aN), .second, .val (.long a2v), .second, .val (.long k0v), .second, .val (.long kN), .second, .val (.long k2v), .second, .val (.ref b16), .val (.ref rb27), .val (.int ok0), .val (.int ok1), .val (.int (1 : Int32)), .val (.long ((k0v + kN) + (0 : Int64))), .second, .val (.int (1 : Int32)), .unset, .unset, .unset] [(.ref rb27)])) t → Steps p.tables e below (s₁.setTop (mkF m 130 #[.val (.int p0), .val (.int p1), .val (.int p2), .val (.int p3), .val (.int p4), .val (.int cs), .val (.int wd), .val (.int sd), .val (.int (2 : Int32)), .val (.int dd), .val (.long a0v), .second, .val (.long a1v), .second, .val (.long a2v), .second, .val (.long k0v), .second, .val (.long k1v), .second, .val (.long k2v), .second, .unset, .unset, .unset, .unset, .unset, .unset, .unset, .unset, .unset, .unset, .unset] [])) t := by
      intro t k
      refine a68 t ?_
      show Steps p.tables e below (T27.setTop (mkF m 395 #[.val (.int p0), .val (.int p1), .val (.int p2), .val (.int p3), .val (.int p4), .val (.int cs), .val (.int wd), .val (.int sd), .val (.int (2 : Int32)), .val (.int dd), .val (.long a0v), .second, .val (.long aN), .second, .val (.long a2v), .second, .val (.long k0v), .second, .val (.long kN), .second, .val (.long k2v), .second, .val (.ref b16), .val (.ref rb27), .val (.int ok0), .unset, s26, s27, .unset, .unset, .unset, .unset, .unset] [(.int ok1)])) _
      refine XS.istore X27.here hx rfl (hb hby at_395) rfl (l' := #[.val (.int p0), .val (.int p1), .val (.int p2), .val (.int p3), .val (.int p4), .val (.int cs), .val (.int wd), .val (.int sd), .val (.int (2 : Int32)), .val (.int dd), .val (.long a0v), .second, .val (.long aN), .second, .val (.long a2v), .second, .val (.long k0v), .second, .val (.long kN), .second, .val (.long k2v), .second, .val (.ref b16), .val (.ref rb27), .val (.int ok0), .val (.int ok1), s26, s27, .unset, .unset, .unset, .unset, .unset]) rfl ?_
      refine XS.iload X27.here hx rfl (hb hby at_397) rfl ?_
      refine XS.iconst X27.here hx rfl (hb hby at_399) ?_
      refine XS.icmpYes X27.here hx rfl (pc0 := 400) (pc' := 419) rfl (hb hby at_400) rfl (tlt (by decide)).1 (by decide) (by decide) ?_
      refine XS.iconst X27.here hx rfl (hb hby at_419) ?_
      refine XS.goto X27.here hx rfl (pc0 := 420) (pc' := 424) rfl (hb hby at_420) (by decide) (by decide) ?_
      refine XS.istore X27.here hx rfl (hb hby at_424) rfl (l' := #[.val (.int p0), .val (.int p1), .val (.int p2), .val (.int p3), .val (.int p4), .val (.int cs), .val (.int wd), .val (.int sd), .val (.int (2 : Int32)), .val (.int dd), .val (.long a0v), .second, .val (.long aN), .second, .val (.long a2v), .second, .val (.long k0v), .second, .val (.long kN), .second, .val (.long k2v), .second, .val (.ref b16), .val (.ref rb27), .val (.int ok0), .val (.int ok1), .val (.int (1 : Int32)), .unset, .unset, .unset, .unset, .unset, .unset]) (by rcases JS26 with ⟨rfl, rfl⟩ | ⟨z, rfl, rfl⟩ <;> rfl) ?_
      refine XS.iload X27.here hx rfl (hb hby at_426) rfl ?_
      refine XS.iconst X27.here hx rfl (hb hby at_428) ?_
      refine XS.icmpNo X27.here hx rfl (hb hby at_429) rfl (flt (by decide)).1 ?_
      refine XS.lload X27.here hx rfl (hb hby at_432) rfl ?_
      refine XS.goto X27.here hx rfl (pc0 := 434) (pc' := 438) rfl (hb hby at_434) (by decide) (by decide) ?_
      refine XS.iload X27.here hx rfl (hb hby at_438) rfl ?_
      refine XS.iconst X27.here hx rfl (hb hby at_440) ?_
      refine XS.icmpNo X27.here hx rfl (hb hby at_441) rfl (flt (by decide)).1 ?_
      refine XS.lload X27.here hx rfl (hb hby at_444) rfl ?_
      refine XS.goto X27.here hx rfl (pc0 := 446) (pc' := 450) rfl (hb hby at_446) (by decide) (by decide) ?_
      refine XS.ladd X27.here hx rfl (hb hby at_450) rfl ?_
      refine XS.iload X27.here hx rfl (hb hby at_451) rfl ?_
      refine XS.iconst X27.here hx rfl (hb hby at_453) ?_
      refine XS.icmpYes X27.here hx rfl (pc0 := 454) (pc' := 462) rfl (hb hby at_454) rfl (tlt (by decide)).1 (by decide) (by decide) ?_
      refine XS.lconst X27.here hx rfl (hb hby at_462) ?_
      refine XS.ladd X27.here hx rfl (hb hby at_463) rfl ?_
      refine XS.lstore X27.here hx rfl (hb hby at_464) rfl (l' := #[.val (.int p0), .val (.int p1), .val (.int p2), .val (.int p3), .val (.int p4), .val (.int cs), .val (.int wd), .val (.int sd), .val (.int (2 : Int32)), .val (.int dd), .val (.long a0v), .second, .val (.long aN), .second, .val (.long a2v), .second, .val (.long k0v), .second, .val (.long kN), .second, .val (.long k2v), .second, .val (.ref b16), .val (.ref rb27), .val (.int ok0), .val (.int ok1), .val (.int (1 : Int32)), .val (.long ((k0v + kN) + (0 : Int64))), .second, .unset, .unset, .unset, .unset]) rfl ?_
      refine XS.iload X27.here hx rfl (hb hby at_466) rfl ?_
      refine XS.ifNo X27.here hx rfl (hb hby at_468) rfl ((if0 _ _).trans (feq (own_one JO0 G27.1)).1) ?_
      refine XS.iload X27.here hx rfl (hb hby at_471) rfl ?_
      refine XS.ifNo X27.here hx rfl (hb hby at_473) rfl ((if0 _ _).trans (feq (own_one JO1 G27.2.1)).1) ?_
      refine XS.iload X27.here hx rfl (hb hby at_476) rfl ?_
      refine XS.ifNo X27.here hx rfl (hb hby at_478) rfl ((if0 _ _).trans (feq (by decide)).1) ?_
      refine XS.lload X27.here hx rfl (hb hby at_481) rfl ?_
      refine XS.iload X27.here hx rfl (hb hby at_483) rfl ?_
      refine XS.i2l X27.here hx rfl (hb hby at_485) rfl ?_
      refine XS.lcmp X27.here hx rfl (hb hby at_486) rfl ?_
      refine XS.ifNo X27.here hx rfl (hb hby at_487) rfl ((if0 _ _).trans (teq ((lw_eq ((k0v + kN) + (0 : Int64)) (dd.toInt64)).mpr (Int64.toInt_inj.mp (by rw [c_i2l, own_s2 hdd G27.1 G27.2.1]; exact G27.2.2)))).2) ?_
      refine XS.iconst X27.here hx rfl (hb hby at_490) ?_
      refine XS.goto X27.here hx rfl (pc0 := 491) (pc' := 495) rfl (hb hby at_491) (by decide) (by decide) ?_
      refine XS.istore X27.here hx rfl (hb hby at_495) rfl (l' := #[.val (.int p0), .val (.int p1), .val (.int p2), .val (.int p3), .val (.int p4), .val (.int cs), .val (.int wd), .val (.int sd), .val (.int (2 : Int32)), .val (.int dd), .val (.long a0v), .second, .val (.long aN), .second, .val (.long a2v), .second, .val (.long k0v), .second, .val (.long kN), .second, .val (.long k2v), .second, .val (.ref b16), .val (.ref rb27), .val (.int ok0), .val (.int ok1), .val (.int (1 : Int32)), .val (.long ((k0v + kN) + (0 : Int64))), .second, .val (.int (1 : Int32)), .unset, .unset, .unset]) rfl ?_
      refine XS.iload X27.here hx rfl (hb hby at_497) rfl ?_
      refine XS.ifYes X27.here hx rfl (pc0 := 499) (pc' := 513) rfl (hb hby at_499) rfl ((if0 _ _).trans (feq (by decide)).2) (by decide) (by decide) ?_
      refine XS.aload X27.here hx rfl (hb hby at_513) rfl rfl ?_
      refine XS.ifnullNo X27.here hx rfl (hb hby at_515) rfl ?_
      refine XS.aload X27.here hx rfl (hb hby at_518) rfl rfl ?_
      exact k
    obtain ⟨cl70, Ar70, qc70, Sz70, Nn70, Hs70, Gs70⟩ := id AR27
    have a71 : ∀ t, Steps p.tables e below (T27.setTop (mkF m 537 #[.val (.int p0), .val (.int p1), .val (.int p2), .val (.int p3), .val (.int p4), .val (.int cs), .val (.int wd), .val (.int sd), .val (.int (2 : Int32)), .val (.int dd), .val (.long a0v), .second, .val (.long aN), .second, .val (.long a2v), .second, .val (.long k0v), .second, .val (.long kN), .second, .val (.long k2v), .second, .val (.ref b16), .val (.ref rb27), .val (.int ok0), .val (.int ok1), .val (.int (1 : Int32)), .val (.long ((k0v + kN) + (0 : Int64))), .second, .val (.int (1 : Int32)), .unset, .unset, .unset] [(.int (0 : Int32)), (.ref rb27)])) t → Steps p.tables e below (s₁.setTop (mkF m 130 #[.val (.int p0), .val (.int p1), .val (.int p2), .val (.int p3), .val (.int p4), .val (.int cs), .val (.int wd), .val (.int sd), .val (.int (2 : Int32)), .val (.int dd), .val (.long a0v), .second, .val (.long a1v), .second, .val (.long a2v), .second, .val (.long k0v), .second, .val (.long k1v), .second, .val (.long k2v), .second, .unset, .unset, .unset, .unset, .unset, .unset, .unset, .unset, .unset, .unset, .unset] [])) t := by
      intro t k
      refine a69 t ?_
      show Steps p.tables e below (T27.setTop (mkF m 520 #[.val (.int p0), .val (.int p1), .val (.int p2), .val (.int p3), .val (.int p4), .val (.int cs), .val (.int wd), .val (.int sd), .val (.int (2 : Int32)), .val (.int dd), .val (.long a0v), .second, .val (.long aN), .second, .val (.long a2v), .second, .val (.long k0v), .second, .val (.long kN), .second, .val (.long k2v), .second, .val (.ref b16), .val (.ref rb27), .val (.int ok0), .val (.int ok1), .val (.int (1 : Int32)), .val (.long ((k0v + kN) + (0 : Int64))), .second, .val (.int (1 : Int32)), .unset, .unset, .unset] [(.ref rb27)])) _
      refine X27.arraylength hx Ar70.1 (State.isArrayOf_alike hZ.alike Ar70.2.1) (g := (mkF m 520 #[.val (.int p0), .val (.int p1), .val (.int p2), .val (.int p3), .val (.int p4), .val (.int cs), .val (.int wd), .val (.int sd), .val (.int (2 : Int32)), .val (.int dd), .val (.long a0v), .second, .val (.long aN), .second, .val (.long a2v), .second, .val (.long k0v), .second, .val (.long kN), .second, .val (.long k2v), .second, .val (.ref b16), .val (.ref rb27), .val (.int ok0), .val (.int ok1), .val (.int (1 : Int32)), .val (.long ((k0v + kN) + (0 : Int64))), .second, .val (.int (1 : Int32)), .unset, .unset, .unset] [(.ref rb27)])) rfl rfl (hb hby at_520) _ ?_
      rw [len_of Sz70 Nn70]
      refine XS.iload X27.here hx rfl (hb hby at_521) rfl ?_
      refine XS.icmpYes X27.here hx rfl (pc0 := 523) (pc' := 528) rfl (hb hby at_523) rfl (teq (by decide)).1 (by decide) (by decide) ?_
      refine XS.iload X27.here hx rfl (hb hby at_528) rfl ?_
      refine XS.iconst X27.here hx rfl (hb hby at_530) ?_
      refine XS.icmpNo X27.here hx rfl (hb hby at_531) rfl (flt (by decide)).1 ?_
      refine XS.aload X27.here hx rfl (hb hby at_534) rfl rfl ?_
      refine XS.iconst X27.here hx rfl (hb hby at_536) ?_
      exact k
    obtain ⟨cl72, Ar72, qc72, Sz72, Nn72, Hs72, Gs72⟩ := id AR27
    have hin72 : ¬ ((0 : Int32) < 0 ∨ cl72.slots.size ≤ ((0 : Int32)).toNatClampNeg) := inb_of Sz72 ⟨by decide, by decide⟩
    have hat72 := Hs72.at hin72 (v := (.double (FP.ddiv (FP.l2d k0v) (FP.i2d dd)))) rfl
    have a73 : ∀ t, Steps p.tables e below (T27.setTop (mkF m 565 #[.val (.int p0), .val (.int p1), .val (.int p2), .val (.int p3), .val (.int p4), .val (.int cs), .val (.int wd), .val (.int sd), .val (.int (2 : Int32)), .val (.int dd), .val (.long a0v), .second, .val (.long aN), .second, .val (.long a2v), .second, .val (.long k0v), .second, .val (.long kN), .second, .val (.long k2v), .second, .val (.ref b16), .val (.ref rb27), .val (.int ok0), .val (.int ok1), .val (.int (1 : Int32)), .val (.long ((k0v + kN) + (0 : Int64))), .second, .val (.int (1 : Int32)), .val (.int (1 : Int32)), .unset, .unset] [(.int (1 : Int32)), (.ref rb27)])) t → Steps p.tables e below (s₁.setTop (mkF m 130 #[.val (.int p0), .val (.int p1), .val (.int p2), .val (.int p3), .val (.int p4), .val (.int cs), .val (.int wd), .val (.int sd), .val (.int (2 : Int32)), .val (.int dd), .val (.long a0v), .second, .val (.long a1v), .second, .val (.long a2v), .second, .val (.long k0v), .second, .val (.long k1v), .second, .val (.long k2v), .second, .unset, .unset, .unset, .unset, .unset, .unset, .unset, .unset, .unset, .unset, .unset] [])) t := by
      intro t k
      refine a71 t ?_
      show Steps p.tables e below (T27.setTop (mkF m 537 #[.val (.int p0), .val (.int p1), .val (.int p2), .val (.int p3), .val (.int p4), .val (.int cs), .val (.int wd), .val (.int sd), .val (.int (2 : Int32)), .val (.int dd), .val (.long a0v), .second, .val (.long aN), .second, .val (.long a2v), .second, .val (.long k0v), .second, .val (.long kN), .second, .val (.long k2v), .second, .val (.ref b16), .val (.ref rb27), .val (.int ok0), .val (.int ok1), .val (.int (1 : Int32)), .val (.long ((k0v + kN) + (0 : Int64))), .second, .val (.int (1 : Int32)), .unset, .unset, .unset] [(.int (0 : Int32)), (.ref rb27)])) _
      refine X27.daload hx (j := (0 : Int32)) (v := (.double (FP.ddiv (FP.l2d k0v) (FP.i2d dd)))) Ar72.1 (State.isArrayOf_alike hZ.alike Ar72.2.1) Ar72.2.2 hin72 hat72 (g := (mkF m 537 #[.val (.int p0), .val (.int p1), .val (.int p2), .val (.int p3), .val (.int p4), .val (.int cs), .val (.int wd), .val (.int sd), .val (.int (2 : Int32)), .val (.int dd), .val (.long a0v), .second, .val (.long aN), .second, .val (.long a2v), .second, .val (.long k0v), .second, .val (.long kN), .second, .val (.long k2v), .second, .val (.ref b16), .val (.ref rb27), .val (.int ok0), .val (.int ok1), .val (.int (1 : Int32)), .val (.long ((k0v + kN) + (0 : Int64))), .second, .val (.int (1 : Int32)), .unset, .unset, .unset] [(.int (0 : Int32)), (.ref rb27)])) rfl rfl (hb hby at_537) _ ?_
      refine XS.lload X27.here hx rfl (hb hby at_538) rfl ?_
      refine XS.l2dS X27.here hx rfl (hb hby at_540) rfl rfl ?_
      refine XS.iload X27.here hx rfl (hb hby at_541) rfl ?_
      refine XS.i2dS X27.here hx rfl (hb hby at_543) rfl rfl ?_
      refine XS.ddivS X27.here hx rfl (hb hby at_544) rfl (own_kd hdd) rfl ?_
      refine XS.dcmpS X27.here hx rfl (hb hby at_545) rfl rfl ?_
      refine XS.ifNo X27.here hx rfl (hb hby at_546) rfl ((if0 _ _).trans (teq (own_self hdd)).2) ?_
      refine XS.iconst X27.here hx rfl (hb hby at_549) ?_
      refine XS.goto X27.here hx rfl (pc0 := 550) (pc' := 554) rfl (hb hby at_550) (by decide) (by decide) ?_
      refine XS.istore X27.here hx rfl (hb hby at_554) rfl (l' := #[.val (.int p0), .val (.int p1), .val (.int p2), .val (.int p3), .val (.int p4), .val (.int cs), .val (.int wd), .val (.int sd), .val (.int (2 : Int32)), .val (.int dd), .val (.long a0v), .second, .val (.long aN), .second, .val (.long a2v), .second, .val (.long k0v), .second, .val (.long kN), .second, .val (.long k2v), .second, .val (.ref b16), .val (.ref rb27), .val (.int ok0), .val (.int ok1), .val (.int (1 : Int32)), .val (.long ((k0v + kN) + (0 : Int64))), .second, .val (.int (1 : Int32)), .val (.int (1 : Int32)), .unset, .unset]) rfl ?_
      refine XS.iload X27.here hx rfl (hb hby at_556) rfl ?_
      refine XS.iconst X27.here hx rfl (hb hby at_558) ?_
      refine XS.icmpNo X27.here hx rfl (hb hby at_559) rfl (flt (by decide)).1 ?_
      refine XS.aload X27.here hx rfl (hb hby at_562) rfl rfl ?_
      refine XS.iconst X27.here hx rfl (hb hby at_564) ?_
      exact k
    obtain ⟨cl74, Ar74, qc74, Sz74, Nn74, Hs74, Gs74⟩ := id AR27
    have hin74 : ¬ ((1 : Int32) < 0 ∨ cl74.slots.size ≤ ((1 : Int32)).toNatClampNeg) := inb_of Sz74 ⟨by decide, by decide⟩
    have hat74 := Hs74.at hin74 (v := (.double (FP.ddiv (FP.l2d kN) (FP.i2d dd)))) rfl
    have a75 : ∀ t, Steps p.tables e below (T27.setTop (mkF m 632 #[.val (.int p0), .val (.int p1), .val (.int p2), .val (.int p3), .val (.int p4), .val (.int cs), .val (.int wd), .val (.int sd), .val (.int (2 : Int32)), .val (.int dd), .val (.long a0v), .second, .val (.long aN), .second, .val (.long a2v), .second, .val (.long k0v), .second, .val (.long kN), .second, .val (.long k2v), .second, .val (.ref b16), .val (.ref rb27), .val (.int ok0), .val (.int ok1), .val (.int (1 : Int32)), .val (.long ((k0v + kN) + (0 : Int64))), .second, .val (.int (1 : Int32)), .val (.int (1 : Int32)), .val (.int (1 : Int32)), .val (.int (1 : Int32))] [(.int (1 : Int32))])) t → Steps p.tables e below (s₁.setTop (mkF m 130 #[.val (.int p0), .val (.int p1), .val (.int p2), .val (.int p3), .val (.int p4), .val (.int cs), .val (.int wd), .val (.int sd), .val (.int (2 : Int32)), .val (.int dd), .val (.long a0v), .second, .val (.long a1v), .second, .val (.long a2v), .second, .val (.long k0v), .second, .val (.long k1v), .second, .val (.long k2v), .second, .unset, .unset, .unset, .unset, .unset, .unset, .unset, .unset, .unset, .unset, .unset] [])) t := by
      intro t k
      refine a73 t ?_
      show Steps p.tables e below (T27.setTop (mkF m 565 #[.val (.int p0), .val (.int p1), .val (.int p2), .val (.int p3), .val (.int p4), .val (.int cs), .val (.int wd), .val (.int sd), .val (.int (2 : Int32)), .val (.int dd), .val (.long a0v), .second, .val (.long aN), .second, .val (.long a2v), .second, .val (.long k0v), .second, .val (.long kN), .second, .val (.long k2v), .second, .val (.ref b16), .val (.ref rb27), .val (.int ok0), .val (.int ok1), .val (.int (1 : Int32)), .val (.long ((k0v + kN) + (0 : Int64))), .second, .val (.int (1 : Int32)), .val (.int (1 : Int32)), .unset, .unset] [(.int (1 : Int32)), (.ref rb27)])) _
      refine X27.daload hx (j := (1 : Int32)) (v := (.double (FP.ddiv (FP.l2d kN) (FP.i2d dd)))) Ar74.1 (State.isArrayOf_alike hZ.alike Ar74.2.1) Ar74.2.2 hin74 hat74 (g := (mkF m 565 #[.val (.int p0), .val (.int p1), .val (.int p2), .val (.int p3), .val (.int p4), .val (.int cs), .val (.int wd), .val (.int sd), .val (.int (2 : Int32)), .val (.int dd), .val (.long a0v), .second, .val (.long aN), .second, .val (.long a2v), .second, .val (.long k0v), .second, .val (.long kN), .second, .val (.long k2v), .second, .val (.ref b16), .val (.ref rb27), .val (.int ok0), .val (.int ok1), .val (.int (1 : Int32)), .val (.long ((k0v + kN) + (0 : Int64))), .second, .val (.int (1 : Int32)), .val (.int (1 : Int32)), .unset, .unset] [(.int (1 : Int32)), (.ref rb27)])) rfl rfl (hb hby at_565) _ ?_
      refine XS.lload X27.here hx rfl (hb hby at_566) rfl ?_
      refine XS.l2dS X27.here hx rfl (hb hby at_568) rfl rfl ?_
      refine XS.iload X27.here hx rfl (hb hby at_569) rfl ?_
      refine XS.i2dS X27.here hx rfl (hb hby at_571) rfl rfl ?_
      refine XS.ddivS X27.here hx rfl (hb hby at_572) rfl (own_kd hdd) rfl ?_
      refine XS.dcmpS X27.here hx rfl (hb hby at_573) rfl rfl ?_
      refine XS.ifNo X27.here hx rfl (hb hby at_574) rfl ((if0 _ _).trans (teq (own_self hdd)).2) ?_
      refine XS.iconst X27.here hx rfl (hb hby at_577) ?_
      refine XS.goto X27.here hx rfl (pc0 := 578) (pc' := 582) rfl (hb hby at_578) (by decide) (by decide) ?_
      refine XS.istore X27.here hx rfl (hb hby at_582) rfl (l' := #[.val (.int p0), .val (.int p1), .val (.int p2), .val (.int p3), .val (.int p4), .val (.int cs), .val (.int wd), .val (.int sd), .val (.int (2 : Int32)), .val (.int dd), .val (.long a0v), .second, .val (.long aN), .second, .val (.long a2v), .second, .val (.long k0v), .second, .val (.long kN), .second, .val (.long k2v), .second, .val (.ref b16), .val (.ref rb27), .val (.int ok0), .val (.int ok1), .val (.int (1 : Int32)), .val (.long ((k0v + kN) + (0 : Int64))), .second, .val (.int (1 : Int32)), .val (.int (1 : Int32)), .val (.int (1 : Int32)), .unset]) rfl ?_
      refine XS.iload X27.here hx rfl (hb hby at_584) rfl ?_
      refine XS.iconst X27.here hx rfl (hb hby at_586) ?_
      refine XS.icmpYes X27.here hx rfl (pc0 := 587) (pc' := 605) rfl (hb hby at_587) rfl (tlt (by decide)).1 (by decide) (by decide) ?_
      refine XS.iconst X27.here hx rfl (hb hby at_605) ?_
      refine XS.goto X27.here hx rfl (pc0 := 606) (pc' := 610) rfl (hb hby at_606) (by decide) (by decide) ?_
      refine XS.istore X27.here hx rfl (hb hby at_610) rfl (l' := #[.val (.int p0), .val (.int p1), .val (.int p2), .val (.int p3), .val (.int p4), .val (.int cs), .val (.int wd), .val (.int sd), .val (.int (2 : Int32)), .val (.int dd), .val (.long a0v), .second, .val (.long aN), .second, .val (.long a2v), .second, .val (.long k0v), .second, .val (.long kN), .second, .val (.long k2v), .second, .val (.ref b16), .val (.ref rb27), .val (.int ok0), .val (.int ok1), .val (.int (1 : Int32)), .val (.long ((k0v + kN) + (0 : Int64))), .second, .val (.int (1 : Int32)), .val (.int (1 : Int32)), .val (.int (1 : Int32)), .val (.int (1 : Int32))]) rfl ?_
      refine XS.iload X27.here hx rfl (hb hby at_612) rfl ?_
      refine XS.ifNo X27.here hx rfl (hb hby at_614) rfl ((if0 _ _).trans (feq (by decide)).1) ?_
      refine XS.iload X27.here hx rfl (hb hby at_617) rfl ?_
      refine XS.ifNo X27.here hx rfl (hb hby at_619) rfl ((if0 _ _).trans (feq (by decide)).1) ?_
      refine XS.iload X27.here hx rfl (hb hby at_622) rfl ?_
      refine XS.ifNo X27.here hx rfl (hb hby at_624) rfl ((if0 _ _).trans (feq (by decide)).1) ?_
      refine XS.iconst X27.here hx rfl (hb hby at_627) ?_
      refine XS.goto X27.here hx rfl (pc0 := 628) (pc' := 632) rfl (hb hby at_628) (by decide) (by decide) ?_
      exact k
    obtain ⟨fs, hr, hrun, hended, hW, hsame⟩ := X27.leave (v := some (.int (1 : Int32))) (fun h => by rw [Bd.returns] at h; cases h)
    refine ⟨_, _, a75 _ ?_, hrun, hended, _, _, rfl, ?_, ⟨_, rfl⟩, hW, hsame.mono (by decide) (by decide)⟩
    · show Steps p.tables e below (T27.setTop (mkF m 632 #[.val (.int p0), .val (.int p1), .val (.int p2), .val (.int p3), .val (.int p4), .val (.int cs), .val (.int wd), .val (.int sd), .val (.int (2 : Int32)), .val (.int dd), .val (.long a0v), .second, .val (.long aN), .second, .val (.long a2v), .second, .val (.long k0v), .second, .val (.long kN), .second, .val (.long k2v), .second, .val (.ref b16), .val (.ref rb27), .val (.int ok0), .val (.int ok1), .val (.int (1 : Int32)), .val (.long ((k0v + kN) + (0 : Int64))), .second, .val (.int (1 : Int32)), .val (.int (1 : Int32)), .val (.int (1 : Int32)), .val (.int (1 : Int32))] [(.int (1 : Int32))])) _
      exact retN X27 hx (t := .boolean) Bd.returns (by simp) (hb hby at_632) hr
    · show Q0 Z p0 p1 p2 p3 p4 h0 n0 _ T27.heap _
      exact ⟨rfl, N27⟩
set_option maxRecDepth 65536 in
set_option maxHeartbeats 40000000 in
theorem tl3 (l : Launch) (Z : State) (a0 : Array Value) (hw : ∀ d ∈ tables_1, d.before a0 Z = true) (ws : List Jvm.Cond) (p0 : Int32) (p1 : Int32) (p2 : Int32) (p3 : Int32) (p4 : Int32) (h0 : Heap) (n0 : Nat) (Z0 : n0 ≤ h0.size) (cs wd sd dd : Int32) (a0v a1v a2v k0v k1v k2v : Int64) {p : Program} {e : Env} {s : State} {m : MethodId} {below : List Frame} {meth : Method} {c : Code} {sB : State} (Bd : BodyLoose p l x (head1 (Jvm.Cond.code x code maxLocals ret :: ws) room_1) code maxLocals ret e s m #[(.int p0), (.int p1), (.int p2), (.int p3), (.int p4)] below meth c sB) (hml : c.maxLocals = 33) (hZ : Z.Warmed39 s.vm) (s₁ : State) (Lc : List Loc) (X0 : Stand p l e room_1 s m #[(.int p0), (.int p1), (.int p2), (.int p3), (.int p4)] below meth c s₁ Lc 0 0) (e0 : s₁.heap = h0) (N0 : Fr n0 Lc) (hdd : OwnD dd) (B_a0v : -2147483648 ≤ a0v.toInt ∧ a0v.toInt ≤ 2147483648) (B_a1v : -2147483648 ≤ a1v.toInt ∧ a1v.toInt ≤ 2147483648) (B_a2v : -2147483648 ≤ a2v.toInt ∧ a2v.toInt ≤ 2147483648) (J_k0v : OwnK a0v dd k0v) (J_k1v : OwnK a1v dd k1v) (J_k2v : OwnK a2v dd k2v) :
    ∃ s₂ o, Steps p.tables e below (s₁.setTop (mkF m 130 #[.val (.int p0), .val (.int p1), .val (.int p2), .val (.int p3), .val (.int p4), .val (.int cs), .val (.int wd), .val (.int sd), .val (.int (3 : Int32)), .val (.int dd), .val (.long a0v), .second, .val (.long a1v), .second, .val (.long a2v), .second, .val (.long k0v), .second, .val (.long k1v), .second, .val (.long k2v), .second, .unset, .unset, .unset, .unset, .unset, .unset, .unset, .unset, .unset, .unset, .unset] [])) s₂ ∧ s₂.status = .running ∧ Ended s₂ below o ∧ ∃ v L, o = .returned v ∧ Q0 Z p0 p1 p2 p3 p4 h0 n0 v s₂.heap L ∧ FrameEnd s o s₂ L room_1.cells room_1.slots := by
  have hx := Bd.exec
  have hby := Bd.bytes
  have hown : s.vm.findClass "com/example/tillerfront/tillerfront/engine/ReferencePointsNearestPinLaw" = some m.cls := findClass_of_methodNamed Bd.named
  have hnm := (name_of_methodNamed Bd.named Bd.method).1
  have pre0 : ∀ t, Steps p.tables e below (s₁.setTop (mkF m 130 #[.val (.int p0), .val (.int p1), .val (.int p2), .val (.int p3), .val (.int p4), .val (.int cs), .val (.int wd), .val (.int sd), .val (.int (3 : Int32)), .val (.int dd), .val (.long a0v), .second, .val (.long a1v), .second, .val (.long a2v), .second, .val (.long k0v), .second, .val (.long k1v), .second, .val (.long k2v), .second, .unset, .unset, .unset, .unset, .unset, .unset, .unset, .unset, .unset, .unset, .unset] [])) t → Steps p.tables e below (s₁.setTop (mkF m 130 #[.val (.int p0), .val (.int p1), .val (.int p2), .val (.int p3), .val (.int p4), .val (.int cs), .val (.int wd), .val (.int sd), .val (.int (3 : Int32)), .val (.int dd), .val (.long a0v), .second, .val (.long a1v), .second, .val (.long a2v), .second, .val (.long k0v), .second, .val (.long k1v), .second, .val (.long k2v), .second, .unset, .unset, .unset, .unset, .unset, .unset, .unset, .unset, .unset, .unset, .unset] [])) t := fun t k => k
  have a1 : ∀ t, Steps p.tables e below (s₁.setTop (mkF m 132 #[.val (.int p0), .val (.int p1), .val (.int p2), .val (.int p3), .val (.int p4), .val (.int cs), .val (.int wd), .val (.int sd), .val (.int (3 : Int32)), .val (.int dd), .val (.long a0v), .second, .val (.long a1v), .second, .val (.long a2v), .second, .val (.long k0v), .second, .val (.long k1v), .second, .val (.long k2v), .second, .unset, .unset, .unset, .unset, .unset, .unset, .unset, .unset, .unset, .unset, .unset] [(.int cs)])) t → Steps p.tables e below (s₁.setTop (mkF m 130 #[.val (.int p0), .val (.int p1), .val (.int p2), .val (.int p3), .val (.int p4), .val (.int cs), .val (.int wd), .val (.int sd), .val (.int (3 : Int32)), .val (.int dd), .val (.long a0v), .second, .val (.long a1v), .second, .val (.long a2v), .second, .val (.long k0v), .second, .val (.long k1v), .second, .val (.long k2v), .second, .unset, .unset, .unset, .unset, .unset, .unset, .unset, .unset, .unset, .unset, .unset] [])) t := by
    intro t k
    refine pre0 t ?_
    show Steps p.tables e below (s₁.setTop (mkF m 130 #[.val (.int p0), .val (.int p1), .val (.int p2), .val (.int p3), .val (.int p4), .val (.int cs), .val (.int wd), .val (.int sd), .val (.int (3 : Int32)), .val (.int dd), .val (.long a0v), .second, .val (.long a1v), .second, .val (.long a2v), .second, .val (.long k0v), .second, .val (.long k1v), .second, .val (.long k2v), .second, .unset, .unset, .unset, .unset, .unset, .unset, .unset, .unset, .unset, .unset, .unset] [])) _
    refine XS.iload X0.here hx rfl (hb hby at_130) rfl ?_
    exact k
  obtain ⟨T14, LL14, aN, kN, s22, s23, s24, s25, s26, s27, X14, e14, N14, JJ, a14⟩ : ∃ (T14 : State) (LL14 : List Loc) (aN : Int64) (kN : Int64) (s22 : Slot) (s23 : Slot) (s24 : Slot) (s25 : Slot) (s26 : Slot) (s27 : Slot), Stand p l e room_1 s m #[(.int p0), (.int p1), (.int p2), (.int p3), (.int p4)] below meth c T14 LL14 0 0 ∧ T14.heap = h0 ∧ Fr n0 LL14 ∧ (OwnK aN dd kN ∧ ((s22 = .unset ∧ s23 = .unset) ∨ ∃ z, s22 = .val (.long z) ∧ s23 = .second) ∧ ((s24 = .unset ∧ s25 = .unset) ∨ ∃ z, s24 = .val (.long z) ∧ s25 = .second) ∧ ((s26 = .unset ∧ s27 = .unset) ∨ ∃ z, s26 = .val (.long z) ∧ s27 = .second)) ∧ ∀ t, Steps p.tables e below (T14.setTop (mkF m 273 #[.val (.int p0), .val (.int p1), .val (.int p2), .val (.int p3), .val (.int p4), .val (.int cs), .val (.int wd), .val (.int sd), .val (.int (3 : Int32)), .val (.int dd), .val (.long a0v), .second, .val (.long a1v), .second, .val (.long aN), .second, .val (.long k0v), .second, .val (.long k1v), .second, .val (.long kN), .second, s22, s23, s24, s25, s26, s27, .unset, .unset, .unset, .unset, .unset] [])) t → Steps p.tables e below (s₁.setTop (mkF m 130 #[.val (.int p0), .val (.int p1), .val (.int p2), .val (.int p3), .val (.int p4), .val (.int cs), .val (.int wd), .val (.int sd), .val (.int (3 : Int32)), .val (.int dd), .val (.long a0v), .second, .val (.long a1v), .second, .val (.long a2v), .second, .val (.long k0v), .second, .val (.long k1v), .second, .val (.long k2v), .second, .unset, .unset, .unset, .unset, .unset, .unset, .unset, .unset, .unset, .unset, .unset] [])) t := by
    by_cases hc132_2 : cs = (0 : Int32)
    ·
      have a3 : ∀ t, Steps p.tables e below (s₁.setTop (mkF m 273 #[.val (.int p0), .val (.int p1), .val (.int p2), .val (.int p3), .val (.int p4), .val (.int cs), .val (.int wd), .val (.int sd), .val (.int (3 : Int32)), .val (.int dd), .val (.long a0v), .second, .val (.long a1v), .second, .val (.long a2v), .second, .val (.long k0v), .second, .val (.long k1v), .second, .val (.long k2v), .second, .unset, .unset, .unset, .unset, .unset, .unset, .unset, .unset, .unset, .unset, .unset] [])) t → Steps p.tables e below (s₁.setTop (mkF m 130 #[.val (.int p0), .val (.int p1), .val (.int p2), .val (.int p3), .val (.int p4), .val (.int cs), .val (.int wd), .val (.int sd), .val (.int (3 : Int32)), .val (.int dd), .val (.long a0v), .second, .val (.long a1v), .second, .val (.long a2v), .second, .val (.long k0v), .second, .val (.long k1v), .second, .val (.long k2v), .second, .unset, .unset, .unset, .unset, .unset, .unset, .unset, .unset, .unset, .unset, .unset] [])) t := by
        intro t k
        refine a1 t ?_
        show Steps p.tables e below (s₁.setTop (mkF m 132 #[.val (.int p0), .val (.int p1), .val (.int p2), .val (.int p3), .val (.int p4), .val (.int cs), .val (.int wd), .val (.int sd), .val (.int (3 : Int32)), .val (.int dd), .val (.long a0v), .second, .val (.long a1v), .second, .val (.long a2v), .second, .val (.long k0v), .second, .val (.long k1v), .second, .val (.long k2v), .second, .unset, .unset, .unset, .unset, .unset, .unset, .unset, .unset, .unset, .unset, .unset] [(.int cs)])) _
        refine XS.ifYes X0.here hx rfl (pc0 := 132) (pc' := 273) rfl (hb hby at_132) rfl ((if0 _ _).trans (teq hc132_2).1) (by decide) (by decide) ?_
        exact k
      exact ⟨s₁, _, a2v, k2v, .unset, .unset, .unset, .unset, .unset, .unset, X0, e0, N0, ⟨J_k2v, Or.inl ⟨rfl, rfl⟩, Or.inl ⟨rfl, rfl⟩, Or.inl ⟨rfl, rfl⟩⟩, a3⟩
    ·
      have a4 : ∀ t, Steps p.tables e below (s₁.setTop (mkF m 180 #[.val (.int p0), .val (.int p1), .val (.int p2), .val (.int p3), .val (.int p4), .val (.int cs), .val (.int wd), .val (.int sd), .val (.int (3 : Int32)), .val (.int dd), .val (.long a0v), .second, .val (.long a1v), .second, .val (.long a2v), .second, .val (.long k0v), .second, .val (.long k1v), .second, .val (.long k2v), .second, .val (.long (k0v + k1v)), .second, .val (.long ((dd.toInt64) - (k0v + k1v))), .second, .unset, .unset, .unset, .unset, .unset, .unset, .unset] [(.int (lcmpW ((dd.toInt64) - (k0v + k1v)) (0 : Int64)))])) t → Steps p.tables e below (s₁.setTop (mkF m 130 #[.val (.int p0), .val (.int p1), .val (.int p2), .val (.int p3), .val (.int p4), .val (.int cs), .val (.int wd), .val (.int sd), .val (.int (3 : Int32)), .val (.int dd), .val (.long a0v), .second, .val (.long a1v), .second, .val (.long a2v), .second, .val (.long k0v), .second, .val (.long k1v), .second, .val (.long k2v), .second, .unset, .unset, .unset, .unset, .unset, .unset, .unset, .unset, .unset, .unset, .unset] [])) t := by
        intro t k
        refine a1 t ?_
        show Steps p.tables e below (s₁.setTop (mkF m 132 #[.val (.int p0), .val (.int p1), .val (.int p2), .val (.int p3), .val (.int p4), .val (.int cs), .val (.int wd), .val (.int sd), .val (.int (3 : Int32)), .val (.int dd), .val (.long a0v), .second, .val (.long a1v), .second, .val (.long a2v), .second, .val (.long k0v), .second, .val (.long k1v), .second, .val (.long k2v), .second, .unset, .unset, .unset, .unset, .unset, .unset, .unset, .unset, .unset, .unset, .unset] [(.int cs)])) _
        refine XS.ifNo X0.here hx rfl (hb hby at_132) rfl ((if0 _ _).trans (feq hc132_2).1) ?_
        refine XS.iload X0.here hx rfl (hb hby at_135) rfl ?_
        refine XS.iconst X0.here hx rfl (hb hby at_137) ?_
        refine XS.icmpNo X0.here hx rfl (hb hby at_138) rfl (flt (by decide)).1 ?_
        refine XS.iload X0.here hx rfl (hb hby at_141) rfl ?_
        refine XS.iconst X0.here hx rfl (hb hby at_143) ?_
        refine XS.icmpNo X0.here hx rfl (hb hby at_144) rfl (flt (by decide)).1 ?_
        refine XS.lload X0.here hx rfl (hb hby at_147) rfl ?_
        refine XS.goto X0.here hx rfl (pc0 := 149) (pc' := 153) rfl (hb hby at_149) (by decide) (by decide) ?_
        refine XS.iload X0.here hx rfl (hb hby at_153) rfl ?_
        refine XS.iconst X0.here hx rfl (hb hby at_155) ?_
        refine XS.icmpNo X0.here hx rfl (hb hby at_156) rfl (flt (by decide)).1 ?_
        refine XS.lload X0.here hx rfl (hb hby at_159) rfl ?_
        refine XS.goto X0.here hx rfl (pc0 := 161) (pc' := 165) rfl (hb hby at_161) (by decide) (by decide) ?_
        refine XS.ladd X0.here hx rfl (hb hby at_165) rfl ?_
        refine XS.lstore X0.here hx rfl (hb hby at_166) rfl (l' := #[.val (.int p0), .val (.int p1), .val (.int p2), .val (.int p3), .val (.int p4), .val (.int cs), .val (.int wd), .val (.int sd), .val (.int (3 : Int32)), .val (.int dd), .val (.long a0v), .second, .val (.long a1v), .second, .val (.long a2v), .second, .val (.long k0v), .second, .val (.long k1v), .second, .val (.long k2v), .second, .val (.long (k0v + k1v)), .second, .unset, .unset, .unset, .unset, .unset, .unset, .unset, .unset, .unset]) rfl ?_
        refine XS.iload X0.here hx rfl (hb hby at_168) rfl ?_
        refine XS.i2l X0.here hx rfl (hb hby at_170) rfl ?_
        refine XS.lload X0.here hx rfl (hb hby at_171) rfl ?_
        refine XS.lsub X0.here hx rfl (hb hby at_173) rfl ?_
        refine XS.lstore X0.here hx rfl (hb hby at_174) rfl (l' := #[.val (.int p0), .val (.int p1), .val (.int p2), .val (.int p3), .val (.int p4), .val (.int cs), .val (.int wd), .val (.int sd), .val (.int (3 : Int32)), .val (.int dd), .val (.long a0v), .second, .val (.long a1v), .second, .val (.long a2v), .second, .val (.long k0v), .second, .val (.long k1v), .second, .val (.long k2v), .second, .val (.long (k0v + k1v)), .second, .val (.long ((dd.toInt64) - (k0v + k1v))), .second, .unset, .unset, .unset, .unset, .unset, .unset, .unset]) rfl ?_
        refine XS.lload X0.here hx rfl (hb hby at_176) rfl ?_
        refine XS.lconst X0.here hx rfl (hb hby at_178) ?_
        refine XS.lcmp X0.here hx rfl (hb hby at_179) rfl ?_
        exact k
      by_cases hc180_5 : ((dd.toInt64) - (k0v + k1v)) < (0 : Int64)
      ·
        have a6 : ∀ t, Steps p.tables e below (s₁.setTop (mkF m 273 #[.val (.int p0), .val (.int p1), .val (.int p2), .val (.int p3), .val (.int p4), .val (.int cs), .val (.int wd), .val (.int sd), .val (.int (3 : Int32)), .val (.int dd), .val (.long a0v), .second, .val (.long a1v), .second, .val (.long a2v), .second, .val (.long k0v), .second, .val (.long k1v), .second, .val (.long k2v), .second, .val (.long (k0v + k1v)), .second, .val (.long ((dd.toInt64) - (k0v + k1v))), .second, .unset, .unset, .unset, .unset, .unset, .unset, .unset] [])) t → Steps p.tables e below (s₁.setTop (mkF m 130 #[.val (.int p0), .val (.int p1), .val (.int p2), .val (.int p3), .val (.int p4), .val (.int cs), .val (.int wd), .val (.int sd), .val (.int (3 : Int32)), .val (.int dd), .val (.long a0v), .second, .val (.long a1v), .second, .val (.long a2v), .second, .val (.long k0v), .second, .val (.long k1v), .second, .val (.long k2v), .second, .unset, .unset, .unset, .unset, .unset, .unset, .unset, .unset, .unset, .unset, .unset] [])) t := by
          intro t k
          refine a4 t ?_
          show Steps p.tables e below (s₁.setTop (mkF m 180 #[.val (.int p0), .val (.int p1), .val (.int p2), .val (.int p3), .val (.int p4), .val (.int cs), .val (.int wd), .val (.int sd), .val (.int (3 : Int32)), .val (.int dd), .val (.long a0v), .second, .val (.long a1v), .second, .val (.long a2v), .second, .val (.long k0v), .second, .val (.long k1v), .second, .val (.long k2v), .second, .val (.long (k0v + k1v)), .second, .val (.long ((dd.toInt64) - (k0v + k1v))), .second, .unset, .unset, .unset, .unset, .unset, .unset, .unset] [(.int (lcmpW ((dd.toInt64) - (k0v + k1v)) (0 : Int64)))])) _
          refine XS.ifYes X0.here hx rfl (pc0 := 180) (pc' := 273) rfl (hb hby at_180) rfl ((if0 _ _).trans (tlt ((lw_lt ((dd.toInt64) - (k0v + k1v)) (0 : Int64)).mpr hc180_5)).1) (by decide) (by decide) ?_
          exact k
        exact ⟨s₁, _, a2v, k2v, .val (.long (k0v + k1v)), .second, .val (.long ((dd.toInt64) - (k0v + k1v))), .second, .unset, .unset, X0, e0, N0, ⟨J_k2v, Or.inr ⟨_, rfl, rfl⟩, Or.inr ⟨_, rfl, rfl⟩, Or.inl ⟨rfl, rfl⟩⟩, a6⟩
      ·
        have a7 : ∀ t, Steps p.tables e below (s₁.setTop (mkF m 189 #[.val (.int p0), .val (.int p1), .val (.int p2), .val (.int p3), .val (.int p4), .val (.int cs), .val (.int wd), .val (.int sd), .val (.int (3 : Int32)), .val (.int dd), .val (.long a0v), .second, .val (.long a1v), .second, .val (.long a2v), .second, .val (.long k0v), .second, .val (.long k1v), .second, .val (.long k2v), .second, .val (.long (k0v + k1v)), .second, .val (.long ((dd.toInt64) - (k0v + k1v))), .second, .unset, .unset, .unset, .unset, .unset, .unset, .unset] [(.int (lcmpW ((dd.toInt64) - (k0v + k1v)) (dd.toInt64)))])) t → Steps p.tables e below (s₁.setTop (mkF m 130 #[.val (.int p0), .val (.int p1), .val (.int p2), .val (.int p3), .val (.int p4), .val (.int cs), .val (.int wd), .val (.int sd), .val (.int (3 : Int32)), .val (.int dd), .val (.long a0v), .second, .val (.long a1v), .second, .val (.long a2v), .second, .val (.long k0v), .second, .val (.long k1v), .second, .val (.long k2v), .second, .unset, .unset, .unset, .unset, .unset, .unset, .unset, .unset, .unset, .unset, .unset] [])) t := by
          intro t k
          refine a4 t ?_
          show Steps p.tables e below (s₁.setTop (mkF m 180 #[.val (.int p0), .val (.int p1), .val (.int p2), .val (.int p3), .val (.int p4), .val (.int cs), .val (.int wd), .val (.int sd), .val (.int (3 : Int32)), .val (.int dd), .val (.long a0v), .second, .val (.long a1v), .second, .val (.long a2v), .second, .val (.long k0v), .second, .val (.long k1v), .second, .val (.long k2v), .second, .val (.long (k0v + k1v)), .second, .val (.long ((dd.toInt64) - (k0v + k1v))), .second, .unset, .unset, .unset, .unset, .unset, .unset, .unset] [(.int (lcmpW ((dd.toInt64) - (k0v + k1v)) (0 : Int64)))])) _
          refine XS.ifNo X0.here hx rfl (hb hby at_180) rfl ((if0 _ _).trans (flt (fun q => hc180_5 ((lw_lt ((dd.toInt64) - (k0v + k1v)) (0 : Int64)).mp q))).1) ?_
          refine XS.lload X0.here hx rfl (hb hby at_183) rfl ?_
          refine XS.iload X0.here hx rfl (hb hby at_185) rfl ?_
          refine XS.i2l X0.here hx rfl (hb hby at_187) rfl ?_
          refine XS.lcmp X0.here hx rfl (hb hby at_188) rfl ?_
          exact k
        by_cases hc189_8 : (dd.toInt64) < ((dd.toInt64) - (k0v + k1v))
        ·
          have a9 : ∀ t, Steps p.tables e below (s₁.setTop (mkF m 273 #[.val (.int p0), .val (.int p1), .val (.int p2), .val (.int p3), .val (.int p4), .val (.int cs), .val (.int wd), .val (.int sd), .val (.int (3 : Int32)), .val (.int dd), .val (.long a0v), .second, .val (.long a1v), .second, .val (.long a2v), .second, .val (.long k0v), .second, .val (.long k1v), .second, .val (.long k2v), .second, .val (.long (k0v + k1v)), .second, .val (.long ((dd.toInt64) - (k0v + k1v))), .second, .unset, .unset, .unset, .unset, .unset, .unset, .unset] [])) t → Steps p.tables e below (s₁.setTop (mkF m 130 #[.val (.int p0), .val (.int p1), .val (.int p2), .val (.int p3), .val (.int p4), .val (.int cs), .val (.int wd), .val (.int sd), .val (.int (3 : Int32)), .val (.int dd), .val (.long a0v), .second, .val (.long a1v), .second, .val (.long a2v), .second, .val (.long k0v), .second, .val (.long k1v), .second, .val (.long k2v), .second, .unset, .unset, .unset, .unset, .unset, .unset, .unset, .unset, .unset, .unset, .unset] [])) t := by
            intro t k
            refine a7 t ?_
            show Steps p.tables e below (s₁.setTop (mkF m 189 #[.val (.int p0), .val (.int p1), .val (.int p2), .val (.int p3), .val (.int p4), .val (.int cs), .val (.int wd), .val (.int sd), .val (.int (3 : Int32)), .val (.int dd), .val (.long a0v), .second, .val (.long a1v), .second, .val (.long a2v), .second, .val (.long k0v), .second, .val (.long k1v), .second, .val (.long k2v), .second, .val (.long (k0v + k1v)), .second, .val (.long ((dd.toInt64) - (k0v + k1v))), .second, .unset, .unset, .unset, .unset, .unset, .unset, .unset] [(.int (lcmpW ((dd.toInt64) - (k0v + k1v)) (dd.toInt64)))])) _
            refine XS.ifYes X0.here hx rfl (pc0 := 189) (pc' := 273) rfl (hb hby at_189) rfl ((if0 _ _).trans (tlt ((lw_gt ((dd.toInt64) - (k0v + k1v)) (dd.toInt64)).mpr hc189_8)).2.2.1) (by decide) (by decide) ?_
            exact k
          exact ⟨s₁, _, a2v, k2v, .val (.long (k0v + k1v)), .second, .val (.long ((dd.toInt64) - (k0v + k1v))), .second, .unset, .unset, X0, e0, N0, ⟨J_k2v, Or.inr ⟨_, rfl, rfl⟩, Or.inr ⟨_, rfl, rfl⟩, Or.inl ⟨rfl, rfl⟩⟩, a9⟩
        ·
          have a10 : ∀ t, Steps p.tables e below (s₁.setTop (mkF m 268 #[.val (.int p0), .val (.int p1), .val (.int p2), .val (.int p3), .val (.int p4), .val (.int cs), .val (.int wd), .val (.int sd), .val (.int (3 : Int32)), .val (.int dd), .val (.long a0v), .second, .val (.long a1v), .second, .val (.long ((((1024 : Int64) * ((dd.toInt64) - (k0v + k1v))) + ((dd / (2 : Int32)).toInt64)) / (dd.toInt64))), .second, .val (.long k0v), .second, .val (.long k1v), .second, .val (.long k2v), .second, .val (.long (k0v + k1v)), .second, .val (.long ((dd.toInt64) - (k0v + k1v))), .second, .val (.long ((((1024 : Int64) * ((dd.toInt64) - (k0v + k1v))) + ((dd / (2 : Int32)).toInt64)) / (dd.toInt64))), .second, .unset, .unset, .unset, .unset, .unset] [(.long (((((1024 : Int64) * ((dd.toInt64) - (k0v + k1v))) + ((dd / (2 : Int32)).toInt64)) / (dd.toInt64)) * (dd.toInt64)))])) t → Steps p.tables e below (s₁.setTop (mkF m 130 #[.val (.int p0), .val (.int p1), .val (.int p2), .val (.int p3), .val (.int p4), .val (.int cs), .val (.int wd), .val (.int sd), .val (.int (3 : Int32)), .val (.int dd), .val (.long a0v), .second, .val (.long a1v), .second, .val (.long a2v), .second, .val (.long k0v), .second, .val (.long k1v), .second, .val (.long k2v), .second, .unset, .unset, .unset, .unset, .unset, .unset, .unset, .unset, .unset, .unset, .unset] [])) t := by
            intro t k
            refine a7 t ?_
            show Steps p.tables e below (s₁.setTop (mkF m 189 #[.val (.int p0), .val (.int p1), .val (.int p2), .val (.int p3), .val (.int p4), .val (.int cs), .val (.int wd), .val (.int sd), .val (.int (3 : Int32)), .val (.int dd), .val (.long a0v), .second, .val (.long a1v), .second, .val (.long a2v), .second, .val (.long k0v), .second, .val (.long k1v), .second, .val (.long k2v), .second, .val (.long (k0v + k1v)), .second, .val (.long ((dd.toInt64) - (k0v + k1v))), .second, .unset, .unset, .unset, .unset, .unset, .unset, .unset] [(.int (lcmpW ((dd.toInt64) - (k0v + k1v)) (dd.toInt64)))])) _
            refine XS.ifNo X0.here hx rfl (hb hby at_189) rfl ((if0 _ _).trans (flt (fun q => hc189_8 ((lw_gt ((dd.toInt64) - (k0v + k1v)) (dd.toInt64)).mp q))).2.2.1) ?_
            refine X0.ldc2Long hx hown (mvT hZ (hw _ (List.mem_of_getElem? (i := 10) rfl))) (g := (mkF m 192 #[.val (.int p0), .val (.int p1), .val (.int p2), .val (.int p3), .val (.int p4), .val (.int cs), .val (.int wd), .val (.int sd), .val (.int (3 : Int32)), .val (.int dd), .val (.long a0v), .second, .val (.long a1v), .second, .val (.long a2v), .second, .val (.long k0v), .second, .val (.long k1v), .second, .val (.long k2v), .second, .val (.long (k0v + k1v)), .second, .val (.long ((dd.toInt64) - (k0v + k1v))), .second, .unset, .unset, .unset, .unset, .unset, .unset, .unset] [])) rfl (hb hby at_192) _ ?_
            refine XS.lload X0.here hx rfl (hb hby at_195) rfl ?_
            refine XS.lmul X0.here hx rfl (hb hby at_197) rfl ?_
            refine XS.iload X0.here hx rfl (hb hby at_198) rfl ?_
            refine XS.iconst X0.here hx rfl (hb hby at_200) ?_
            refine XS.idiv X0.here hx rfl (hb hby at_201) rfl (by decide) ?_
            refine XS.i2l X0.here hx rfl (hb hby at_202) rfl ?_
            refine XS.ladd X0.here hx rfl (hb hby at_203) rfl ?_
            refine XS.iload X0.here hx rfl (hb hby at_204) rfl ?_
            refine XS.i2l X0.here hx rfl (hb hby at_206) rfl ?_
            refine XS.ldiv X0.here hx rfl (hb hby at_207) rfl (own_nzd hdd) ?_
            refine XS.lstore X0.here hx rfl (hb hby at_208) rfl (l' := #[.val (.int p0), .val (.int p1), .val (.int p2), .val (.int p3), .val (.int p4), .val (.int cs), .val (.int wd), .val (.int sd), .val (.int (3 : Int32)), .val (.int dd), .val (.long a0v), .second, .val (.long a1v), .second, .val (.long a2v), .second, .val (.long k0v), .second, .val (.long k1v), .second, .val (.long k2v), .second, .val (.long (k0v + k1v)), .second, .val (.long ((dd.toInt64) - (k0v + k1v))), .second, .val (.long ((((1024 : Int64) * ((dd.toInt64) - (k0v + k1v))) + ((dd / (2 : Int32)).toInt64)) / (dd.toInt64))), .second, .unset, .unset, .unset, .unset, .unset]) rfl ?_
            refine XS.iload X0.here hx rfl (hb hby at_210) rfl ?_
            refine XS.iconst X0.here hx rfl (hb hby at_212) ?_
            refine XS.icmpYes X0.here hx rfl (pc0 := 213) (pc' := 234) rfl (hb hby at_213) rfl (feq (by decide)).2 (by decide) (by decide) ?_
            refine XS.iload X0.here hx rfl (hb hby at_234) rfl ?_
            refine XS.iconst X0.here hx rfl (hb hby at_236) ?_
            refine XS.icmpYes X0.here hx rfl (pc0 := 237) (pc' := 258) rfl (hb hby at_237) rfl (feq (by decide)).2 (by decide) (by decide) ?_
            refine XS.lload X0.here hx rfl (hb hby at_258) rfl ?_
            refine XS.lstore X0.here hx rfl (hb hby at_260) rfl (l' := #[.val (.int p0), .val (.int p1), .val (.int p2), .val (.int p3), .val (.int p4), .val (.int cs), .val (.int wd), .val (.int sd), .val (.int (3 : Int32)), .val (.int dd), .val (.long a0v), .second, .val (.long a1v), .second, .val (.long ((((1024 : Int64) * ((dd.toInt64) - (k0v + k1v))) + ((dd / (2 : Int32)).toInt64)) / (dd.toInt64))), .second, .val (.long k0v), .second, .val (.long k1v), .second, .val (.long k2v), .second, .val (.long (k0v + k1v)), .second, .val (.long ((dd.toInt64) - (k0v + k1v))), .second, .val (.long ((((1024 : Int64) * ((dd.toInt64) - (k0v + k1v))) + ((dd / (2 : Int32)).toInt64)) / (dd.toInt64))), .second, .unset, .unset, .unset, .unset, .unset]) rfl ?_
            refine XS.lload X0.here hx rfl (hb hby at_262) rfl ?_
            refine XS.iload X0.here hx rfl (hb hby at_264) rfl ?_
            refine XS.i2l X0.here hx rfl (hb hby at_266) rfl ?_
            refine XS.lmul X0.here hx rfl (hb hby at_267) rfl ?_
            exact k
          obtain ⟨_, _, ⟨T11, L11, k11, n11⟩, -, X11, ⟨Lc11, hQ11, l11, y11, z11⟩, st11⟩ := Jvm.LawKit.callS X0 hx (y := (⟨"com/example/tillerfront/tillerfront/engine/ReferencePointsNearestPinLaw", "rnd", "(J)J"⟩ : MethodName)) hown (mvT hZ (hw _ (List.mem_of_getElem? (i := 5) rfl))) (mvT hZ (hw _ (List.mem_of_getElem? (i := 6) rfl))) (mvT hZ (hw _ (List.mem_of_getElem? (i := 3) rfl))) (mvT hZ (hw _ (List.mem_of_getElem? (i := 7) rfl))) (by decide) (backOf (W := 0) (rmR l Z a0 hw [] (((((1024 : Int64) * ((dd.toInt64) - (k0v + k1v))) + ((dd / (2 : Int32)).toInt64)) / (dd.toInt64)) * (dd.toInt64)) h0 n0 Z0 (by rw [own_lmul (own_a hdd hc180_5 hc189_8) hdd]; have := own_prod_bd (own_a hdd hc180_5 hc189_8) hdd; omega)) hZ (hw _ (List.mem_of_getElem? (i := 7) rfl)) (hw _ (List.mem_of_getElem? (i := 3) rfl)) (by decide) (by decide)) (g := (mkF m 268 #[.val (.int p0), .val (.int p1), .val (.int p2), .val (.int p3), .val (.int p4), .val (.int cs), .val (.int wd), .val (.int sd), .val (.int (3 : Int32)), .val (.int dd), .val (.long a0v), .second, .val (.long a1v), .second, .val (.long ((((1024 : Int64) * ((dd.toInt64) - (k0v + k1v))) + ((dd / (2 : Int32)).toInt64)) / (dd.toInt64))), .second, .val (.long k0v), .second, .val (.long k1v), .second, .val (.long k2v), .second, .val (.long (k0v + k1v)), .second, .val (.long ((dd.toInt64) - (k0v + k1v))), .second, .val (.long ((((1024 : Int64) * ((dd.toInt64) - (k0v + k1v))) + ((dd / (2 : Int32)).toInt64)) / (dd.toInt64))), .second, .unset, .unset, .unset, .unset, .unset] [(.long (((((1024 : Int64) * ((dd.toInt64) - (k0v + k1v))) + ((dd / (2 : Int32)).toInt64)) / (dd.toInt64)) * (dd.toInt64)))])) rfl (by rw [hml]; rfl) (argsL := [(.long (((((1024 : Int64) * ((dd.toInt64) - (k0v + k1v))) + ((dd / (2 : Int32)).toInt64)) / (dd.toInt64)) * (dd.toInt64)))]) (rest := []) (lenOf own_pd2 rfl) rfl (by show 2 * 0 + _ ≤ _; exact Nat.le_of_eq rfl) (hb hby at_268) (fun _ _ => ⟨rfl, e0, (by decide : 0 + 0 ≤ _), (by decide : 0 + 0 ≤ _)⟩)
          dsimp only [Pt.U, Pt.locs, Pt.cells, Pt.slots] at X11 l11 y11 z11 st11 hQ11
          subst l11 y11 z11
          obtain ⟨kN2, rfl, R_kN2, N11q, e11q⟩ := hQ11
          have N11 := Fr.app N0 N11q
          have J_kN2 : OwnK ((((1024 : Int64) * ((dd.toInt64) - (k0v + k1v))) + ((dd / (2 : Int32)).toInt64)) / (dd.toInt64)) dd kN2 := ⟨(own_a hdd hc180_5 hc189_8), by rw [R_kN2, own_lmul (own_a hdd hc180_5 hc189_8) hdd]⟩
          have a12 : ∀ t, Steps p.tables e below (T11.setTop (mkF m 271 #[.val (.int p0), .val (.int p1), .val (.int p2), .val (.int p3), .val (.int p4), .val (.int cs), .val (.int wd), .val (.int sd), .val (.int (3 : Int32)), .val (.int dd), .val (.long a0v), .second, .val (.long a1v), .second, .val (.long ((((1024 : Int64) * ((dd.toInt64) - (k0v + k1v))) + ((dd / (2 : Int32)).toInt64)) / (dd.toInt64))), .second, .val (.long k0v), .second, .val (.long k1v), .second, .val (.long k2v), .second, .val (.long (k0v + k1v)), .second, .val (.long ((dd.toInt64) - (k0v + k1v))), .second, .val (.long ((((1024 : Int64) * ((dd.toInt64) - (k0v + k1v))) + ((dd / (2 : Int32)).toInt64)) / (dd.toInt64))), .second, .unset, .unset, .unset, .unset, .unset] [(.long kN2)])) t → Steps p.tables e below (s₁.setTop (mkF m 130 #[.val (.int p0), .val (.int p1), .val (.int p2), .val (.int p3), .val (.int p4), .val (.int cs), .val (.int wd), .val (.int sd), .val (.int (3 : Int32)), .val (.int dd), .val (.long a0v), .second, .val (.long a1v), .second, .val (.long a2v), .second, .val (.long k0v), .second, .val (.long k1v), .second, .val (.long k2v), .second, .unset, .unset, .unset, .unset, .unset, .unset, .unset, .unset, .unset, .unset, .unset] [])) t := fun t k => a10 t (st11 t k)
          have a13 : ∀ t, Steps p.tables e below (T11.setTop (mkF m 273 #[.val (.int p0), .val (.int p1), .val (.int p2), .val (.int p3), .val (.int p4), .val (.int cs), .val (.int wd), .val (.int sd), .val (.int (3 : Int32)), .val (.int dd), .val (.long a0v), .second, .val (.long a1v), .second, .val (.long ((((1024 : Int64) * ((dd.toInt64) - (k0v + k1v))) + ((dd / (2 : Int32)).toInt64)) / (dd.toInt64))), .second, .val (.long k0v), .second, .val (.long k1v), .second, .val (.long kN2), .second, .val (.long (k0v + k1v)), .second, .val (.long ((dd.toInt64) - (k0v + k1v))), .second, .val (.long ((((1024 : Int64) * ((dd.toInt64) - (k0v + k1v))) + ((dd / (2 : Int32)).toInt64)) / (dd.toInt64))), .second, .unset, .unset, .unset, .unset, .unset] [])) t → Steps p.tables e below (s₁.setTop (mkF m 130 #[.val (.int p0), .val (.int p1), .val (.int p2), .val (.int p3), .val (.int p4), .val (.int cs), .val (.int wd), .val (.int sd), .val (.int (3 : Int32)), .val (.int dd), .val (.long a0v), .second, .val (.long a1v), .second, .val (.long a2v), .second, .val (.long k0v), .second, .val (.long k1v), .second, .val (.long k2v), .second, .unset, .unset, .unset, .unset, .unset, .unset, .unset, .unset, .unset, .unset, .unset] [])) t := by
            intro t k
            refine a12 t ?_
            show Steps p.tables e below (T11.setTop (mkF m 271 #[.val (.int p0), .val (.int p1), .val (.int p2), .val (.int p3), .val (.int p4), .val (.int cs), .val (.int wd), .val (.int sd), .val (.int (3 : Int32)), .val (.int dd), .val (.long a0v), .second, .val (.long a1v), .second, .val (.long ((((1024 : Int64) * ((dd.toInt64) - (k0v + k1v))) + ((dd / (2 : Int32)).toInt64)) / (dd.toInt64))), .second, .val (.long k0v), .second, .val (.long k1v), .second, .val (.long k2v), .second, .val (.long (k0v + k1v)), .second, .val (.long ((dd.toInt64) - (k0v + k1v))), .second, .val (.long ((((1024 : Int64) * ((dd.toInt64) - (k0v + k1v))) + ((dd / (2 : Int32)).toInt64)) / (dd.toInt64))), .second, .unset, .unset, .unset, .unset, .unset] [(.long kN2)])) _
            refine XS.lstore X11.here hx rfl (hb hby at_271) rfl (l' := #[.val (.int p0), .val (.int p1), .val (.int p2), .val (.int p3), .val (.int p4), .val (.int cs), .val (.int wd), .val (.int sd), .val (.int (3 : Int32)), .val (.int dd), .val (.long a0v), .second, .val (.long a1v), .second, .val (.long ((((1024 : Int64) * ((dd.toInt64) - (k0v + k1v))) + ((dd / (2 : Int32)).toInt64)) / (dd.toInt64))), .second, .val (.long k0v), .second, .val (.long k1v), .second, .val (.long kN2), .second, .val (.long (k0v + k1v)), .second, .val (.long ((dd.toInt64) - (k0v + k1v))), .second, .val (.long ((((1024 : Int64) * ((dd.toInt64) - (k0v + k1v))) + ((dd / (2 : Int32)).toInt64)) / (dd.toInt64))), .second, .unset, .unset, .unset, .unset, .unset]) rfl ?_
            exact k
          exact ⟨T11, _, ((((1024 : Int64) * ((dd.toInt64) - (k0v + k1v))) + ((dd / (2 : Int32)).toInt64)) / (dd.toInt64)), kN2, .val (.long (k0v + k1v)), .second, .val (.long ((dd.toInt64) - (k0v + k1v))), .second, .val (.long ((((1024 : Int64) * ((dd.toInt64) - (k0v + k1v))) + ((dd / (2 : Int32)).toInt64)) / (dd.toInt64))), .second, X11, e11q, N11, ⟨J_kN2, Or.inr ⟨_, rfl, rfl⟩, Or.inr ⟨_, rfl, rfl⟩, Or.inr ⟨_, rfl, rfl⟩⟩, a13⟩
  obtain ⟨J_kN, JS22, JS24, JS26⟩ := JJ
  have a15 : ∀ t, Steps p.tables e below (T14.setTop (mkF m 275 #[.val (.int p0), .val (.int p1), .val (.int p2), .val (.int p3), .val (.int p4), .val (.int cs), .val (.int wd), .val (.int sd), .val (.int (3 : Int32)), .val (.int dd), .val (.long a0v), .second, .val (.long a1v), .second, .val (.long aN), .second, .val (.long k0v), .second, .val (.long k1v), .second, .val (.long kN), .second, s22, s23, s24, s25, s26, s27, .unset, .unset, .unset, .unset, .unset] [(.int (3 : Int32))])) t → Steps p.tables e below (s₁.setTop (mkF m 130 #[.val (.int p0), .val (.int p1), .val (.int p2), .val (.int p3), .val (.int p4), .val (.int cs), .val (.int wd), .val (.int sd), .val (.int (3 : Int32)), .val (.int dd), .val (.long a0v), .second, .val (.long a1v), .second, .val (.long a2v), .second, .val (.long k0v), .second, .val (.long k1v), .second, .val (.long k2v), .second, .unset, .unset, .unset, .unset, .unset, .unset, .unset, .unset, .unset, .unset, .unset] [])) t := by
    intro t k
    refine a14 t ?_
    show Steps p.tables e below (T14.setTop (mkF m 273 #[.val (.int p0), .val (.int p1), .val (.int p2), .val (.int p3), .val (.int p4), .val (.int cs), .val (.int wd), .val (.int sd), .val (.int (3 : Int32)), .val (.int dd), .val (.long a0v), .second, .val (.long a1v), .second, .val (.long aN), .second, .val (.long k0v), .second, .val (.long k1v), .second, .val (.long kN), .second, s22, s23, s24, s25, s26, s27, .unset, .unset, .unset, .unset, .unset] [])) _
    refine XS.iload X14.here hx rfl (hb hby at_273) rfl ?_
    exact k
  obtain ⟨T16, h16, kk16, X16, e16, E16, A16, st16⟩ := newP X14 hx hZ (hw _ (List.mem_of_getElem? (i := 11) rfl)) e14 (g := (mkF m 275 #[.val (.int p0), .val (.int p1), .val (.int p2), .val (.int p3), .val (.int p4), .val (.int cs), .val (.int wd), .val (.int sd), .val (.int (3 : Int32)), .val (.int dd), .val (.long a0v), .second, .val (.long a1v), .second, .val (.long aN), .second, .val (.long k0v), .second, .val (.long k1v), .second, .val (.long kN), .second, s22, s23, s24, s25, s26, s27, .unset, .unset, .unset, .unset, .unset] [(.int (3 : Int32))])) rfl (hb hby at_275) rfl (by decide) (cap := 3) (by decide) (by decide) (by decide) (by decide)
  obtain ⟨b16, g16⟩ : ∃ z, z = h0.size := ⟨_, rfl⟩
  rw [← g16] at A16 st16
  have g_b16 : n0 ≤ b16 := Nat.le_trans Z0 (Nat.le_of_eq g16.symm)
  have sz_b16 : h0.size ≤ b16 := Nat.le_trans ((Keep.refl h0 [])).1 (Nat.le_of_eq g16.symm)
  have V_b16 : Arv Z h16 b16 kk16 .double (3 : Int32) [(.double (0 : UInt64)), (.double (0 : UInt64)), (.double (0 : UInt64))] (.double (0 : UInt64)) := (Arv.new A16 (by decide)).pad (pad_rep [] (.double (0 : UInt64)) 3)
  have K16 : Keep h0 h16 [] := Keep.ext (Keep.refl h0 []) E16
  have a17 : ∀ t, Steps p.tables e below (T16.setTop (mkF m 277 #[.val (.int p0), .val (.int p1), .val (.int p2), .val (.int p3), .val (.int p4), .val (.int cs), .val (.int wd), .val (.int sd), .val (.int (3 : Int32)), .val (.int dd), .val (.long a0v), .second, .val (.long a1v), .second, .val (.long aN), .second, .val (.long k0v), .second, .val (.long k1v), .second, .val (.long kN), .second, s22, s23, s24, s25, s26, s27, .unset, .unset, .unset, .unset, .unset] [(.ref b16)])) t → Steps p.tables e below (s₁.setTop (mkF m 130 #[.val (.int p0), .val (.int p1), .val (.int p2), .val (.int p3), .val (.int p4), .val (.int cs), .val (.int wd), .val (.int sd), .val (.int (3 : Int32)), .val (.int dd), .val (.long a0v), .second, .val (.long a1v), .second, .val (.long a2v), .second, .val (.long k0v), .second, .val (.long k1v), .second, .val (.long k2v), .second, .unset, .unset, .unset, .unset, .unset, .unset, .unset, .unset, .unset, .unset, .unset] [])) t := fun t k => a15 t (st16 t k)
  have a18 : ∀ t, Steps p.tables e below (T16.setTop (mkF m 295 #[.val (.int p0), .val (.int p1), .val (.int p2), .val (.int p3), .val (.int p4), .val (.int cs), .val (.int wd), .val (.int sd), .val (.int (3 : Int32)), .val (.int dd), .val (.long a0v), .second, .val (.long a1v), .second, .val (.long aN), .second, .val (.long k0v), .second, .val (.long k1v), .second, .val (.long kN), .second, .val (.ref b16), .unset, s24, s25, s26, s27, .unset, .unset, .unset, .unset, .unset] [(.double (FP.ddiv (FP.l2d a0v) (4652218415073722368 : UInt64))), (.int (0 : Int32)), (.ref b16)])) t → Steps p.tables e below (s₁.setTop (mkF m 130 #[.val (.int p0), .val (.int p1), .val (.int p2), .val (.int p3), .val (.int p4), .val (.int cs), .val (.int wd), .val (.int sd), .val (.int (3 : Int32)), .val (.int dd), .val (.long a0v), .second, .val (.long a1v), .second, .val (.long a2v), .second, .val (.long k0v), .second, .val (.long k1v), .second, .val (.long k2v), .second, .unset, .unset, .unset, .unset, .unset, .unset, .unset, .unset, .unset, .unset, .unset] [])) t := by
    intro t k
    refine a17 t ?_
    show Steps p.tables e below (T16.setTop (mkF m 277 #[.val (.int p0), .val (.int p1), .val (.int p2), .val (.int p3), .val (.int p4), .val (.int cs), .val (.int wd), .val (.int sd), .val (.int (3 : Int32)), .val (.int dd), .val (.long a0v), .second, .val (.long a1v), .second, .val (.long aN), .second, .val (.long k0v), .second, .val (.long k1v), .second, .val (.long kN), .second, s22, s23, s24, s25, s26, s27, .unset, .unset, .unset, .unset, .unset] [(.ref b16)])) _
    refine XS.astore X16.here hx rfl (hb hby at_277) rfl rfl (l' := #[.val (.int p0), .val (.int p1), .val (.int p2), .val (.int p3), .val (.int p4), .val (.int cs), .val (.int wd), .val (.int sd), .val (.int (3 : Int32)), .val (.int dd), .val (.long a0v), .second, .val (.long a1v), .second, .val (.long aN), .second, .val (.long k0v), .second, .val (.long k1v), .second, .val (.long kN), .second, .val (.ref b16), .unset, s24, s25, s26, s27, .unset, .unset, .unset, .unset, .unset]) (by rcases JS22 with ⟨rfl, rfl⟩ | ⟨z, rfl, rfl⟩ <;> rfl) ?_
    refine XS.iload X16.here hx rfl (hb hby at_279) rfl ?_
    refine XS.iconst X16.here hx rfl (hb hby at_281) ?_
    refine XS.icmpNo X16.here hx rfl (hb hby at_282) rfl (flt (by decide)).1 ?_
    refine XS.aload X16.here hx rfl (hb hby at_285) rfl rfl ?_
    refine XS.iconst X16.here hx rfl (hb hby at_287) ?_
    refine XS.lload X16.here hx rfl (hb hby at_288) rfl ?_
    refine XS.l2dS X16.here hx rfl (hb hby at_290) rfl rfl ?_
    refine X16.ldc2DoubleC hx hown (mvT hZ (hw _ (List.mem_of_getElem? (i := 16) rfl))) (g := (mkF m 291 #[.val (.int p0), .val (.int p1), .val (.int p2), .val (.int p3), .val (.int p4), .val (.int cs), .val (.int wd), .val (.int sd), .val (.int (3 : Int32)), .val (.int dd), .val (.long a0v), .second, .val (.long a1v), .second, .val (.long aN), .second, .val (.long k0v), .second, .val (.long k1v), .second, .val (.long kN), .second, .val (.ref b16), .unset, s24, s25, s26, s27, .unset, .unset, .unset, .unset, .unset] [(.double (FP.l2d a0v)), (.int (0 : Int32)), (.ref b16)])) rfl (hb hby at_291) _ ?_
    refine XS.ddivS X16.here hx rfl (hb hby at_294) rfl (nn64 (own_x J_k0v.1).1) rfl ?_
    exact k
  obtain ⟨cl19, Ar19, qc19, Sz19, Nn19, Hs19, Gs19⟩ := id V_b16
  have hin19 : ¬ ((0 : Int32) < 0 ∨ cl19.slots.size ≤ ((0 : Int32)).toNatClampNeg) := inb_of Sz19 ⟨by decide, by decide⟩
  obtain ⟨T20, h20, X20, e20, W20, st20⟩ := stD X16 hx hZ e16 Ar19 (j := (0 : Int32)) hin19 (g := (mkF m 295 #[.val (.int p0), .val (.int p1), .val (.int p2), .val (.int p3), .val (.int p4), .val (.int cs), .val (.int wd), .val (.int sd), .val (.int (3 : Int32)), .val (.int dd), .val (.long a0v), .second, .val (.long a1v), .second, .val (.long aN), .second, .val (.long k0v), .second, .val (.long k1v), .second, .val (.long kN), .second, .val (.ref b16), .unset, s24, s25, s26, s27, .unset, .unset, .unset, .unset, .unset] [(.double (FP.ddiv (FP.l2d a0v) (4652218415073722368 : UInt64))), (.int (0 : Int32)), (.ref b16)])) rfl rfl (hb hby at_295)
  have V20 : Arv Z h20 b16 kk16 .double (3 : Int32) [(.double (FP.ddiv (FP.l2d a0v) (4652218415073722368 : UInt64))), (.double (0 : UInt64)), (.double (0 : UInt64))] (.double (0 : UInt64)) := Arv.set Ar19 qc19 Sz19 Nn19 Hs19 Gs19 rfl W20 0 rfl (Nat.le_of_ble_eq_true rfl)
  have N20 := Fr.snoc X20 N14 g_b16
  have K20 : Keep h0 h20 [] := Keep.wr K16 W20 (Or.inr sz_b16)
  have a21 : ∀ t, Steps p.tables e below (T20.setTop (mkF m 296 #[.val (.int p0), .val (.int p1), .val (.int p2), .val (.int p3), .val (.int p4), .val (.int cs), .val (.int wd), .val (.int sd), .val (.int (3 : Int32)), .val (.int dd), .val (.long a0v), .second, .val (.long a1v), .second, .val (.long aN), .second, .val (.long k0v), .second, .val (.long k1v), .second, .val (.long kN), .second, .val (.ref b16), .unset, s24, s25, s26, s27, .unset, .unset, .unset, .unset, .unset] [])) t → Steps p.tables e below (s₁.setTop (mkF m 130 #[.val (.int p0), .val (.int p1), .val (.int p2), .val (.int p3), .val (.int p4), .val (.int cs), .val (.int wd), .val (.int sd), .val (.int (3 : Int32)), .val (.int dd), .val (.long a0v), .second, .val (.long a1v), .second, .val (.long a2v), .second, .val (.long k0v), .second, .val (.long k1v), .second, .val (.long k2v), .second, .unset, .unset, .unset, .unset, .unset, .unset, .unset, .unset, .unset, .unset, .unset] [])) t := fun t k => a18 t (st20 t k)
  have a22 : ∀ t, Steps p.tables e below (T20.setTop (mkF m 312 #[.val (.int p0), .val (.int p1), .val (.int p2), .val (.int p3), .val (.int p4), .val (.int cs), .val (.int wd), .val (.int sd), .val (.int (3 : Int32)), .val (.int dd), .val (.long a0v), .second, .val (.long a1v), .second, .val (.long aN), .second, .val (.long k0v), .second, .val (.long k1v), .second, .val (.long kN), .second, .val (.ref b16), .unset, s24, s25, s26, s27, .unset, .unset, .unset, .unset, .unset] [(.double (FP.ddiv (FP.l2d a1v) (4652218415073722368 : UInt64))), (.int (1 : Int32)), (.ref b16)])) t → Steps p.tables e below (s₁.setTop (mkF m 130 #[.val (.int p0), .val (.int p1), .val (.int p2), .val (.int p3), .val (.int p4), .val (.int cs), .val (.int wd), .val (.int sd), .val (.int (3 : Int32)), .val (.int dd), .val (.long a0v), .second, .val (.long a1v), .second, .val (.long a2v), .second, .val (.long k0v), .second, .val (.long k1v), .second, .val (.long k2v), .second, .unset, .unset, .unset, .unset, .unset, .unset, .unset, .unset, .unset, .unset, .unset] [])) t := by
    intro t k
    refine a21 t ?_
    show Steps p.tables e below (T20.setTop (mkF m 296 #[.val (.int p0), .val (.int p1), .val (.int p2), .val (.int p3), .val (.int p4), .val (.int cs), .val (.int wd), .val (.int sd), .val (.int (3 : Int32)), .val (.int dd), .val (.long a0v), .second, .val (.long a1v), .second, .val (.long aN), .second, .val (.long k0v), .second, .val (.long k1v), .second, .val (.long kN), .second, .val (.ref b16), .unset, s24, s25, s26, s27, .unset, .unset, .unset, .unset, .unset] [])) _
    refine XS.iload X20.here hx rfl (hb hby at_296) rfl ?_
    refine XS.iconst X20.here hx rfl (hb hby at_298) ?_
    refine XS.icmpNo X20.here hx rfl (hb hby at_299) rfl (flt (by decide)).1 ?_
    refine XS.aload X20.here hx rfl (hb hby at_302) rfl rfl ?_
    refine XS.iconst X20.here hx rfl (hb hby at_304) ?_
    refine XS.lload X20.here hx rfl (hb hby at_305) rfl ?_
    refine XS.l2dS X20.here hx rfl (hb hby at_307) rfl rfl ?_
    refine X20.ldc2DoubleC hx hown (mvT hZ (hw _ (List.mem_of_getElem? (i := 16) rfl))) (g := (mkF m 308 #[.val (.int p0), .val (.int p1), .val (.int p2), .val (.int p3), .val (.int p4), .val (.int cs), .val (.int wd), .val (.int sd), .val (.int (3 : Int32)), .val (.int dd), .val (.long a0v), .second, .val (.long a1v), .second, .val (.long aN), .second, .val (.long k0v), .second, .val (.long k1v), .second, .val (.long kN), .second, .val (.ref b16), .unset, s24, s25, s26, s27, .unset, .unset, .unset, .unset, .unset] [(.double (FP.l2d a1v)), (.int (1 : Int32)), (.ref b16)])) rfl (hb hby at_308) _ ?_
    refine XS.ddivS X20.here hx rfl (hb hby at_311) rfl (nn64 (own_x J_k1v.1).1) rfl ?_
    exact k
  obtain ⟨cl23, Ar23, qc23, Sz23, Nn23, Hs23, Gs23⟩ := id V20
  have hin23 : ¬ ((1 : Int32) < 0 ∨ cl23.slots.size ≤ ((1 : Int32)).toNatClampNeg) := inb_of Sz23 ⟨by decide, by decide⟩
  obtain ⟨T24, h24, X24, e24, W24, st24⟩ := stD X20 hx hZ e20 Ar23 (j := (1 : Int32)) hin23 (g := (mkF m 312 #[.val (.int p0), .val (.int p1), .val (.int p2), .val (.int p3), .val (.int p4), .val (.int cs), .val (.int wd), .val (.int sd), .val (.int (3 : Int32)), .val (.int dd), .val (.long a0v), .second, .val (.long a1v), .second, .val (.long aN), .second, .val (.long k0v), .second, .val (.long k1v), .second, .val (.long kN), .second, .val (.ref b16), .unset, s24, s25, s26, s27, .unset, .unset, .unset, .unset, .unset] [(.double (FP.ddiv (FP.l2d a1v) (4652218415073722368 : UInt64))), (.int (1 : Int32)), (.ref b16)])) rfl rfl (hb hby at_312)
  have V24 : Arv Z h24 b16 kk16 .double (3 : Int32) [(.double (FP.ddiv (FP.l2d a0v) (4652218415073722368 : UInt64))), (.double (FP.ddiv (FP.l2d a1v) (4652218415073722368 : UInt64))), (.double (0 : UInt64))] (.double (0 : UInt64)) := Arv.set Ar23 qc23 Sz23 Nn23 Hs23 Gs23 rfl W24 1 rfl (Nat.le_of_ble_eq_true rfl)
  have N24 := Fr.snoc X24 N20 g_b16
  have K24 : Keep h0 h24 [] := Keep.wr K20 W24 (Or.inr sz_b16)
  have a25 : ∀ t, Steps p.tables e below (T24.setTop (mkF m 313 #[.val (.int p0), .val (.int p1), .val (.int p2), .val (.int p3), .val (.int p4), .val (.int cs), .val (.int wd), .val (.int sd), .val (.int (3 : Int32)), .val (.int dd), .val (.long a0v), .second, .val (.long a1v), .second, .val (.long aN), .second, .val (.long k0v), .second, .val (.long k1v), .second, .val (.long kN), .second, .val (.ref b16), .unset, s24, s25, s26, s27, .unset, .unset, .unset, .unset, .unset] [])) t → Steps p.tables e below (s₁.setTop (mkF m 130 #[.val (.int p0), .val (.int p1), .val (.int p2), .val (.int p3), .val (.int p4), .val (.int cs), .val (.int wd), .val (.int sd), .val (.int (3 : Int32)), .val (.int dd), .val (.long a0v), .second, .val (.long a1v), .second, .val (.long a2v), .second, .val (.long k0v), .second, .val (.long k1v), .second, .val (.long k2v), .second, .unset, .unset, .unset, .unset, .unset, .unset, .unset, .unset, .unset, .unset, .unset] [])) t := fun t k => a22 t (st24 t k)
  have a26 : ∀ t, Steps p.tables e below (T24.setTop (mkF m 329 #[.val (.int p0), .val (.int p1), .val (.int p2), .val (.int p3), .val (.int p4), .val (.int cs), .val (.int wd), .val (.int sd), .val (.int (3 : Int32)), .val (.int dd), .val (.long a0v), .second, .val (.long a1v), .second, .val (.long aN), .second, .val (.long k0v), .second, .val (.long k1v), .second, .val (.long kN), .second, .val (.ref b16), .unset, s24, s25, s26, s27, .unset, .unset, .unset, .unset, .unset] [(.double (FP.ddiv (FP.l2d aN) (4652218415073722368 : UInt64))), (.int (2 : Int32)), (.ref b16)])) t → Steps p.tables e below (s₁.setTop (mkF m 130 #[.val (.int p0), .val (.int p1), .val (.int p2), .val (.int p3), .val (.int p4), .val (.int cs), .val (.int wd), .val (.int sd), .val (.int (3 : Int32)), .val (.int dd), .val (.long a0v), .second, .val (.long a1v), .second, .val (.long a2v), .second, .val (.long k0v), .second, .val (.long k1v), .second, .val (.long k2v), .second, .unset, .unset, .unset, .unset, .unset, .unset, .unset, .unset, .unset, .unset, .unset] [])) t := by
    intro t k
    refine a25 t ?_
    show Steps p.tables e below (T24.setTop (mkF m 313 #[.val (.int p0), .val (.int p1), .val (.int p2), .val (.int p3), .val (.int p4), .val (.int cs), .val (.int wd), .val (.int sd), .val (.int (3 : Int32)), .val (.int dd), .val (.long a0v), .second, .val (.long a1v), .second, .val (.long aN), .second, .val (.long k0v), .second, .val (.long k1v), .second, .val (.long kN), .second, .val (.ref b16), .unset, s24, s25, s26, s27, .unset, .unset, .unset, .unset, .unset] [])) _
    refine XS.iload X24.here hx rfl (hb hby at_313) rfl ?_
    refine XS.iconst X24.here hx rfl (hb hby at_315) ?_
    refine XS.icmpNo X24.here hx rfl (hb hby at_316) rfl (flt (by decide)).1 ?_
    refine XS.aload X24.here hx rfl (hb hby at_319) rfl rfl ?_
    refine XS.iconst X24.here hx rfl (hb hby at_321) ?_
    refine XS.lload X24.here hx rfl (hb hby at_322) rfl ?_
    refine XS.l2dS X24.here hx rfl (hb hby at_324) rfl rfl ?_
    refine X24.ldc2DoubleC hx hown (mvT hZ (hw _ (List.mem_of_getElem? (i := 16) rfl))) (g := (mkF m 325 #[.val (.int p0), .val (.int p1), .val (.int p2), .val (.int p3), .val (.int p4), .val (.int cs), .val (.int wd), .val (.int sd), .val (.int (3 : Int32)), .val (.int dd), .val (.long a0v), .second, .val (.long a1v), .second, .val (.long aN), .second, .val (.long k0v), .second, .val (.long k1v), .second, .val (.long kN), .second, .val (.ref b16), .unset, s24, s25, s26, s27, .unset, .unset, .unset, .unset, .unset] [(.double (FP.l2d aN)), (.int (2 : Int32)), (.ref b16)])) rfl (hb hby at_325) _ ?_
    refine XS.ddivS X24.here hx rfl (hb hby at_328) rfl (nn64 (own_x J_kN.1).1) rfl ?_
    exact k
  obtain ⟨cl27, Ar27, qc27, Sz27, Nn27, Hs27, Gs27⟩ := id V24
  have hin27 : ¬ ((2 : Int32) < 0 ∨ cl27.slots.size ≤ ((2 : Int32)).toNatClampNeg) := inb_of Sz27 ⟨by decide, by decide⟩
  obtain ⟨T28, h28, X28, e28, W28, st28⟩ := stD X24 hx hZ e24 Ar27 (j := (2 : Int32)) hin27 (g := (mkF m 329 #[.val (.int p0), .val (.int p1), .val (.int p2), .val (.int p3), .val (.int p4), .val (.int cs), .val (.int wd), .val (.int sd), .val (.int (3 : Int32)), .val (.int dd), .val (.long a0v), .second, .val (.long a1v), .second, .val (.long aN), .second, .val (.long k0v), .second, .val (.long k1v), .second, .val (.long kN), .second, .val (.ref b16), .unset, s24, s25, s26, s27, .unset, .unset, .unset, .unset, .unset] [(.double (FP.ddiv (FP.l2d aN) (4652218415073722368 : UInt64))), (.int (2 : Int32)), (.ref b16)])) rfl rfl (hb hby at_329)
  have V28 : Arv Z h28 b16 kk16 .double (3 : Int32) [(.double (FP.ddiv (FP.l2d a0v) (4652218415073722368 : UInt64))), (.double (FP.ddiv (FP.l2d a1v) (4652218415073722368 : UInt64))), (.double (FP.ddiv (FP.l2d aN) (4652218415073722368 : UInt64)))] (.double (0 : UInt64)) := Arv.set Ar27 qc27 Sz27 Nn27 Hs27 Gs27 rfl W28 2 rfl (Nat.le_of_ble_eq_true rfl)
  have N28 := Fr.snoc X28 N24 g_b16
  have K28 : Keep h0 h28 [] := Keep.wr K24 W28 (Or.inr sz_b16)
  have a29 : ∀ t, Steps p.tables e below (T28.setTop (mkF m 330 #[.val (.int p0), .val (.int p1), .val (.int p2), .val (.int p3), .val (.int p4), .val (.int cs), .val (.int wd), .val (.int sd), .val (.int (3 : Int32)), .val (.int dd), .val (.long a0v), .second, .val (.long a1v), .second, .val (.long aN), .second, .val (.long k0v), .second, .val (.long k1v), .second, .val (.long kN), .second, .val (.ref b16), .unset, s24, s25, s26, s27, .unset, .unset, .unset, .unset, .unset] [])) t → Steps p.tables e below (s₁.setTop (mkF m 130 #[.val (.int p0), .val (.int p1), .val (.int p2), .val (.int p3), .val (.int p4), .val (.int cs), .val (.int wd), .val (.int sd), .val (.int (3 : Int32)), .val (.int dd), .val (.long a0v), .second, .val (.long a1v), .second, .val (.long a2v), .second, .val (.long k0v), .second, .val (.long k1v), .second, .val (.long k2v), .second, .unset, .unset, .unset, .unset, .unset, .unset, .unset, .unset, .unset, .unset, .unset] [])) t := fun t k => a26 t (st28 t k)
  have a30 : ∀ t, Steps p.tables e below (T28.setTop (mkF m 334 #[.val (.int p0), .val (.int p1), .val (.int p2), .val (.int p3), .val (.int p4), .val (.int cs), .val (.int wd), .val (.int sd), .val (.int (3 : Int32)), .val (.int dd), .val (.long a0v), .second, .val (.long a1v), .second, .val (.long aN), .second, .val (.long k0v), .second, .val (.long k1v), .second, .val (.long kN), .second, .val (.ref b16), .unset, s24, s25, s26, s27, .unset, .unset, .unset, .unset, .unset] [(.int dd), (.ref b16)])) t → Steps p.tables e below (s₁.setTop (mkF m 130 #[.val (.int p0), .val (.int p1), .val (.int p2), .val (.int p3), .val (.int p4), .val (.int cs), .val (.int wd), .val (.int sd), .val (.int (3 : Int32)), .val (.int dd), .val (.long a0v), .second, .val (.long a1v), .second, .val (.long a2v), .second, .val (.long k0v), .second, .val (.long k1v), .second, .val (.long k2v), .second, .unset, .unset, .unset, .unset, .unset, .unset, .unset, .unset, .unset, .unset, .unset] [])) t := by
    intro t k
    refine a29 t ?_
    show Steps p.tables e below (T28.setTop (mkF m 330 #[.val (.int p0), .val (.int p1), .val (.int p2), .val (.int p3), .val (.int p4), .val (.int cs), .val (.int wd), .val (.int sd), .val (.int (3 : Int32)), .val (.int dd), .val (.long a0v), .second, .val (.long a1v), .second, .val (.long aN), .second, .val (.long k0v), .second, .val (.long k1v), .second, .val (.long kN), .second, .val (.ref b16), .unset, s24, s25, s26, s27, .unset, .unset, .unset, .unset, .unset] [])) _
    refine XS.aload X28.here hx rfl (hb hby at_330) rfl rfl ?_
    refine XS.iload X28.here hx rfl (hb hby at_332) rfl ?_
    exact k
  obtain ⟨_, _, ⟨T31, L31, k31, n31⟩, -, X31, ⟨Lc31, hQ31, l31, y31, z31⟩, st31⟩ := Jvm.LawKit.callS X28 hx (y := (⟨"com/example/tillerfront/tillerfront/engine/ReferencePoints", "nearest", "([DI)[D"⟩ : MethodName)) hown (mvT hZ (hw _ (List.mem_of_getElem? (i := 12) rfl))) (mvT hZ (hw _ (List.mem_of_getElem? (i := 13) rfl))) (mvT hZ (hw _ (List.mem_of_getElem? (i := 14) rfl))) (mvT hZ (hw _ (List.mem_of_getElem? (i := 15) rfl))) (by decide) (backOf (W := 0) (rmN3 l Z a0 hw [] b16 dd kk16 a0v k0v a1v k1v aN kN h28 n0 (Nat.le_trans (Nat.le_trans (Nat.le_trans (Nat.le_trans Z0 E16.1) (Keep.of_wr W20).1) (Keep.of_wr W24).1) (Keep.of_wr W28).1) V28 hdd J_k0v J_k1v J_kN) hZ (hw _ (List.mem_of_getElem? (i := 15) rfl)) (hw _ (List.mem_of_getElem? (i := 14) rfl)) (by decide) (by decide)) (g := (mkF m 334 #[.val (.int p0), .val (.int p1), .val (.int p2), .val (.int p3), .val (.int p4), .val (.int cs), .val (.int wd), .val (.int sd), .val (.int (3 : Int32)), .val (.int dd), .val (.long a0v), .second, .val (.long a1v), .second, .val (.long aN), .second, .val (.long k0v), .second, .val (.long k1v), .second, .val (.long kN), .second, .val (.ref b16), .unset, s24, s25, s26, s27, .unset, .unset, .unset, .unset, .unset] [(.int dd), (.ref b16)])) rfl (by rw [hml]; rfl) (argsL := [(.ref b16), (.int dd)]) (rest := []) (lenOf own_pd3 rfl) rfl (by show 2 * 0 + _ ≤ _; exact Nat.le_of_eq rfl) (hb hby at_334) (fun _ _ => ⟨rfl, e28, (by decide : 1 + 1 ≤ _), (by decide : 3 + 3 ≤ _)⟩)
  dsimp only [Pt.U, Pt.locs, Pt.cells, Pt.slots] at X31 l31 y31 z31 st31 hQ31
  subst l31 y31 z31
  rcases hQ31 with ⟨rfl, G31, N31q, K31q⟩ | ⟨rb31, kb31, rfl, G31, N31q, K31q, AR31⟩
  ·
    have N31 := Fr.app N28 N31q
    have KK31 : Keep h0 T31.heap [] := Keep.trans K28 K31q all0
    have a32 : ∀ t, Steps p.tables e below (T31.setTop (mkF m 337 #[.val (.int p0), .val (.int p1), .val (.int p2), .val (.int p3), .val (.int p4), .val (.int cs), .val (.int wd), .val (.int sd), .val (.int (3 : Int32)), .val (.int dd), .val (.long a0v), .second, .val (.long a1v), .second, .val (.long aN), .second, .val (.long k0v), .second, .val (.long k1v), .second, .val (.long kN), .second, .val (.ref b16), .unset, s24, s25, s26, s27, .unset, .unset, .unset, .unset, .unset] [.null])) t → Steps p.tables e below (s₁.setTop (mkF m 130 #[.val (.int p0), .val (.int p1), .val (.int p2), .val (.int p3), .val (.int p4), .val (.int cs), .val (.int wd), .val (.int sd), .val (.int (3 : Int32)), .val (.int dd), .val (.long a0v), .second, .val (.long a1v), .second, .val (.long a2v), .second, .val (.long k0v), .second, .val (.long k1v), .second, .val (.long k2v), .second, .unset, .unset, .unset, .unset, .unset, .unset, .unset, .unset, .unset, .unset, .unset] [])) t := fun t k => a30 t (st31 t k)
    have a33 : ∀ t, Steps p.tables e below (T31.setTop (mkF m 349 #[.val (.int p0), .val (.int p1), .val (.int p2), .val (.int p3), .val (.int p4), .val (.int cs), .val (.int wd), .val (.int sd), .val (.int (3 : Int32)), .val (.int dd), .val (.long a0v), .second, .val (.long a1v), .second, .val (.long aN), .second, .val (.long k0v), .second, .val (.long k1v), .second, .val (.long kN), .second, .val (.ref b16), .val .null, s24, s25, s26, s27, .unset, .unset, .unset, .unset, .unset] [(.int (lcmpW k0v (0 : Int64)))])) t → Steps p.tables e below (s₁.setTop (mkF m 130 #[.val (.int p0), .val (.int p1), .val (.int p2), .val (.int p3), .val (.int p4), .val (.int cs), .val (.int wd), .val (.int sd), .val (.int (3 : Int32)), .val (.int dd), .val (.long a0v), .second, .val (.long a1v), .second, .val (.long a2v), .second, .val (.long k0v), .second, .val (.long k1v), .second, .val (.long k2v), .second, .unset, .unset, .unset, .unset, .unset, .unset, .unset, .unset, .unset, .unset, .unset] [])) t := by
      intro t k
      refine a32 t ?_
      show Steps p.tables e below (T31.setTop (mkF m 337 #[.val (.int p0), .val (.int p1), .val (.int p2), .val (.int p3), .val (.int p4), .val (.int cs), .val (.int wd), .val (.int sd), .val (.int (3 : Int32)), .val (.int dd), .val (.long a0v), .second, .val (.long a1v), .second, .val (.long aN), .second, .val (.long k0v), .second, .val (.long k1v), .second, .val (.long kN), .second, .val (.ref b16), .unset, s24, s25, s26, s27, .unset, .unset, .unset, .unset, .unset] [.null])) _
      refine XS.astore X31.here hx rfl (hb hby at_337) rfl rfl (l' := #[.val (.int p0), .val (.int p1), .val (.int p2), .val (.int p3), .val (.int p4), .val (.int cs), .val (.int wd), .val (.int sd), .val (.int (3 : Int32)), .val (.int dd), .val (.long a0v), .second, .val (.long a1v), .second, .val (.long aN), .second, .val (.long k0v), .second, .val (.long k1v), .second, .val (.long kN), .second, .val (.ref b16), .val .null, s24, s25, s26, s27, .unset, .unset, .unset, .unset, .unset]) rfl ?_
      refine XS.iload X31.here hx rfl (hb hby at_339) rfl ?_
      refine XS.iconst X31.here hx rfl (hb hby at_341) ?_
      refine XS.icmpNo X31.here hx rfl (hb hby at_342) rfl (flt (by decide)).1 ?_
      refine XS.lload X31.here hx rfl (hb hby at_345) rfl ?_
      refine XS.lconst X31.here hx rfl (hb hby at_347) ?_
      refine XS.lcmp X31.here hx rfl (hb hby at_348) rfl ?_
      exact k
    obtain ⟨ok0, JO0, a40⟩ : ∃ (ok0 : Int32), ((ok0 = 1 ∧ OwnOk k0v dd) ∨ (ok0 = 0 ∧ ¬ OwnOk k0v dd)) ∧ ∀ t, Steps p.tables e below (T31.setTop (mkF m 366 #[.val (.int p0), .val (.int p1), .val (.int p2), .val (.int p3), .val (.int p4), .val (.int cs), .val (.int wd), .val (.int sd), .val (.int (3 : Int32)), .val (.int dd), .val (.long a0v), .second, .val (.long a1v), .second, .val (.long aN), .second, .val (.long k0v), .second, .val (.long k1v), .second, .val (.long kN), .second, .val (.ref b16), .val .null, s24, s25, s26, s27, .unset, .unset, .unset, .unset, .unset] [(.int ok0)])) t → Steps p.tables e below (s₁.setTop (mkF m 130 #[.val (.int p0), .val (.int p1), .val (.int p2), .val (.int p3), .val (.int p4), .val (.int cs), .val (.int wd), .val (.int sd), .val (.int (3 : Int32)), .val (.int dd), .val (.long a0v), .second, .val (.long a1v), .second, .val (.long a2v), .second, .val (.long k0v), .second, .val (.long k1v), .second, .val (.long k2v), .second, .unset, .unset, .unset, .unset, .unset, .unset, .unset, .unset, .unset, .unset, .unset] [])) t := by
      by_cases hc349_34 : k0v < (0 : Int64)
      ·
        have a35 : ∀ t, Steps p.tables e below (T31.setTop (mkF m 366 #[.val (.int p0), .val (.int p1), .val (.int p2), .val (.int p3), .val (.int p4), .val (.int cs), .val (.int wd), .val (.int sd), .val (.int (3 : Int32)), .val (.int dd), .val (.long a0v), .second, .val (.long a1v), .second, .val (.long aN), .second, .val (.long k0v), .second, .val (.long k1v), .second, .val (.long kN), .second, .val (.ref b16), .val .null, s24, s25, s26, s27, .unset, .unset, .unset, .unset, .unset] [(.int (0 : Int32))])) t → Steps p.tables e below (s₁.setTop (mkF m 130 #[.val (.int p0), .val (.int p1), .val (.int p2), .val (.int p3), .val (.int p4), .val (.int cs), .val (.int wd), .val (.int sd), .val (.int (3 : Int32)), .val (.int dd), .val (.long a0v), .second, .val (.long a1v), .second, .val (.long a2v), .second, .val (.long k0v), .second, .val (.long k1v), .second, .val (.long k2v), .second, .unset, .unset, .unset, .unset, .unset, .unset, .unset, .unset, .unset, .unset, .unset] [])) t := by
          intro t k
          refine a33 t ?_
          show Steps p.tables e below (T31.setTop (mkF m 349 #[.val (.int p0), .val (.int p1), .val (.int p2), .val (.int p3), .val (.int p4), .val (.int cs), .val (.int wd), .val (.int sd), .val (.int (3 : Int32)), .val (.int dd), .val (.long a0v), .second, .val (.long a1v), .second, .val (.long aN), .second, .val (.long k0v), .second, .val (.long k1v), .second, .val (.long kN), .second, .val (.ref b16), .val .null, s24, s25, s26, s27, .unset, .unset, .unset, .unset, .unset] [(.int (lcmpW k0v (0 : Int64)))])) _
          refine XS.ifYes X31.here hx rfl (pc0 := 349) (pc' := 365) rfl (hb hby at_349) rfl ((if0 _ _).trans (tlt ((lw_lt k0v (0 : Int64)).mpr hc349_34)).1) (by decide) (by decide) ?_
          refine XS.iconst X31.here hx rfl (hb hby at_365) ?_
          exact k
        exact ⟨(0 : Int32), Or.inr ⟨rfl, own_not_ok (Or.inl hc349_34)⟩, a35⟩
      ·
        have a36 : ∀ t, Steps p.tables e below (T31.setTop (mkF m 358 #[.val (.int p0), .val (.int p1), .val (.int p2), .val (.int p3), .val (.int p4), .val (.int cs), .val (.int wd), .val (.int sd), .val (.int (3 : Int32)), .val (.int dd), .val (.long a0v), .second, .val (.long a1v), .second, .val (.long aN), .second, .val (.long k0v), .second, .val (.long k1v), .second, .val (.long kN), .second, .val (.ref b16), .val .null, s24, s25, s26, s27, .unset, .unset, .unset, .unset, .unset] [(.int (lcmpW k0v (dd.toInt64)))])) t → Steps p.tables e below (s₁.setTop (mkF m 130 #[.val (.int p0), .val (.int p1), .val (.int p2), .val (.int p3), .val (.int p4), .val (.int cs), .val (.int wd), .val (.int sd), .val (.int (3 : Int32)), .val (.int dd), .val (.long a0v), .second, .val (.long a1v), .second, .val (.long a2v), .second, .val (.long k0v), .second, .val (.long k1v), .second, .val (.long k2v), .second, .unset, .unset, .unset, .unset, .unset, .unset, .unset, .unset, .unset, .unset, .unset] [])) t := by
          intro t k
          refine a33 t ?_
          show Steps p.tables e below (T31.setTop (mkF m 349 #[.val (.int p0), .val (.int p1), .val (.int p2), .val (.int p3), .val (.int p4), .val (.int cs), .val (.int wd), .val (.int sd), .val (.int (3 : Int32)), .val (.int dd), .val (.long a0v), .second, .val (.long a1v), .second, .val (.long aN), .second, .val (.long k0v), .second, .val (.long k1v), .second, .val (.long kN), .second, .val (.ref b16), .val .null, s24, s25, s26, s27, .unset, .unset, .unset, .unset, .unset] [(.int (lcmpW k0v (0 : Int64)))])) _
          refine XS.ifNo X31.here hx rfl (hb hby at_349) rfl ((if0 _ _).trans (flt (fun q => hc349_34 ((lw_lt k0v (0 : Int64)).mp q))).1) ?_
          refine XS.lload X31.here hx rfl (hb hby at_352) rfl ?_
          refine XS.iload X31.here hx rfl (hb hby at_354) rfl ?_
          refine XS.i2l X31.here hx rfl (hb hby at_356) rfl ?_
          refine XS.lcmp X31.here hx rfl (hb hby at_357) rfl ?_
          exact k
        by_cases hc358_37 : (dd.toInt64) < k0v
        ·
          have a38 : ∀ t, Steps p.tables e below (T31.setTop (mkF m 366 #[.val (.int p0), .val (.int p1), .val (.int p2), .val (.int p3), .val (.int p4), .val (.int cs), .val (.int wd), .val (.int sd), .val (.int (3 : Int32)), .val (.int dd), .val (.long a0v), .second, .val (.long a1v), .second, .val (.long aN), .second, .val (.long k0v), .second, .val (.long k1v), .second, .val (.long kN), .second, .val (.ref b16), .val .null, s24, s25, s26, s27, .unset, .unset, .unset, .unset, .unset] [(.int (0 : Int32))])) t → Steps p.tables e below (s₁.setTop (mkF m 130 #[.val (.int p0), .val (.int p1), .val (.int p2), .val (.int p3), .val (.int p4), .val (.int cs), .val (.int wd), .val (.int sd), .val (.int (3 : Int32)), .val (.int dd), .val (.long a0v), .second, .val (.long a1v), .second, .val (.long a2v), .second, .val (.long k0v), .second, .val (.long k1v), .second, .val (.long k2v), .second, .unset, .unset, .unset, .unset, .unset, .unset, .unset, .unset, .unset, .unset, .unset] [])) t := by
            intro t k
            refine a36 t ?_
            show Steps p.tables e below (T31.setTop (mkF m 358 #[.val (.int p0), .val (.int p1), .val (.int p2), .val (.int p3), .val (.int p4), .val (.int cs), .val (.int wd), .val (.int sd), .val (.int (3 : Int32)), .val (.int dd), .val (.long a0v), .second, .val (.long a1v), .second, .val (.long aN), .second, .val (.long k0v), .second, .val (.long k1v), .second, .val (.long kN), .second, .val (.ref b16), .val .null, s24, s25, s26, s27, .unset, .unset, .unset, .unset, .unset] [(.int (lcmpW k0v (dd.toInt64)))])) _
            refine XS.ifYes X31.here hx rfl (pc0 := 358) (pc' := 365) rfl (hb hby at_358) rfl ((if0 _ _).trans (tlt ((lw_gt k0v (dd.toInt64)).mpr hc358_37)).2.2.1) (by decide) (by decide) ?_
            refine XS.iconst X31.here hx rfl (hb hby at_365) ?_
            exact k
          exact ⟨(0 : Int32), Or.inr ⟨rfl, own_not_ok (Or.inr hc358_37)⟩, a38⟩
        ·
          have a39 : ∀ t, Steps p.tables e below (T31.setTop (mkF m 366 #[.val (.int p0), .val (.int p1), .val (.int p2), .val (.int p3), .val (.int p4), .val (.int cs), .val (.int wd), .val (.int sd), .val (.int (3 : Int32)), .val (.int dd), .val (.long a0v), .second, .val (.long a1v), .second, .val (.long aN), .second, .val (.long k0v), .second, .val (.long k1v), .second, .val (.long kN), .second, .val (.ref b16), .val .null, s24, s25, s26, s27, .unset, .unset, .unset, .unset, .unset] [(.int (1 : Int32))])) t → Steps p.tables e below (s₁.setTop (mkF m 130 #[.val (.int p0), .val (.int p1), .val (.int p2), .val (.int p3), .val (.int p4), .val (.int cs), .val (.int wd), .val (.int sd), .val (.int (3 : Int32)), .val (.int dd), .val (.long a0v), .second, .val (.long a1v), .second, .val (.long a2v), .second, .val (.long k0v), .second, .val (.long k1v), .second, .val (.long k2v), .second, .unset, .unset, .unset, .unset, .unset, .unset, .unset, .unset, .unset, .unset, .unset] [])) t := by
            intro t k
            refine a36 t ?_
            show Steps p.tables e below (T31.setTop (mkF m 358 #[.val (.int p0), .val (.int p1), .val (.int p2), .val (.int p3), .val (.int p4), .val (.int cs), .val (.int wd), .val (.int sd), .val (.int (3 : Int32)), .val (.int dd), .val (.long a0v), .second, .val (.long a1v), .second, .val (.long aN), .second, .val (.long k0v), .second, .val (.long k1v), .second, .val (.long kN), .second, .val (.ref b16), .val .null, s24, s25, s26, s27, .unset, .unset, .unset, .unset, .unset] [(.int (lcmpW k0v (dd.toInt64)))])) _
            refine XS.ifNo X31.here hx rfl (hb hby at_358) rfl ((if0 _ _).trans (flt (fun q => hc358_37 ((lw_gt k0v (dd.toInt64)).mp q))).2.2.1) ?_
            refine XS.iconst X31.here hx rfl (hb hby at_361) ?_
            refine XS.goto X31.here hx rfl (pc0 := 362) (pc' := 366) rfl (hb hby at_362) (by decide) (by decide) ?_
            exact k
          exact ⟨(1 : Int32), Or.inl ⟨rfl, own_is_ok hc349_34 hc358_37⟩, a39⟩
    have a41 : ∀ t, Steps p.tables e below (T31.setTop (mkF m 378 #[.val (.int p0), .val (.int p1), .val (.int p2), .val (.int p3), .val (.int p4), .val (.int cs), .val (.int wd), .val (.int sd), .val (.int (3 : Int32)), .val (.int dd), .val (.long a0v), .second, .val (.long a1v), .second, .val (.long aN), .second, .val (.long k0v), .second, .val (.long k1v), .second, .val (.long kN), .second, .val (.ref b16), .val .null, .val (.int ok0), .unset, s26, s27, .unset, .unset, .unset, .unset, .unset] [(.int (lcmpW k1v (0 : Int64)))])) t → Steps p.tables e below (s₁.setTop (mkF m 130 #[.val (.int p0), .val (.int p1), .val (.int p2), .val (.int p3), .val (.int p4), .val (.int cs), .val (.int wd), .val (.int sd), .val (.int (3 : Int32)), .val (.int dd), .val (.long a0v), .second, .val (.long a1v), .second, .val (.long a2v), .second, .val (.long k0v), .second, .val (.long k1v), .second, .val (.long k2v), .second, .unset, .unset, .unset, .unset, .unset, .unset, .unset, .unset, .unset, .unset, .unset] [])) t := by
      intro t k
      refine a40 t ?_
      show Steps p.tables e below (T31.setTop (mkF m 366 #[.val (.int p0), .val (.int p1), .val (.int p2), .val (.int p3), .val (.int p4), .val (.int cs), .val (.int wd), .val (.int sd), .val (.int (3 : Int32)), .val (.int dd), .val (.long a0v), .second, .val (.long a1v), .second, .val (.long aN), .second, .val (.long k0v), .second, .val (.long k1v), .second, .val (.long kN), .second, .val (.ref b16), .val .null, s24, s25, s26, s27, .unset, .unset, .unset, .unset, .unset] [(.int ok0)])) _
      refine XS.istore X31.here hx rfl (hb hby at_366) rfl (l' := #[.val (.int p0), .val (.int p1), .val (.int p2), .val (.int p3), .val (.int p4), .val (.int cs), .val (.int wd), .val (.int sd), .val (.int (3 : Int32)), .val (.int dd), .val (.long a0v), .second, .val (.long a1v), .second, .val (.long aN), .second, .val (.long k0v), .second, .val (.long k1v), .second, .val (.long kN), .second, .val (.ref b16), .val .null, .val (.int ok0), .unset, s26, s27, .unset, .unset, .unset, .unset, .unset]) (by rcases JS24 with ⟨rfl, rfl⟩ | ⟨z, rfl, rfl⟩ <;> rfl) ?_
      refine XS.iload X31.here hx rfl (hb hby at_368) rfl ?_
      refine XS.iconst X31.here hx rfl (hb hby at_370) ?_
      refine XS.icmpNo X31.here hx rfl (hb hby at_371) rfl (flt (by decide)).1 ?_
      refine XS.lload X31.here hx rfl (hb hby at_374) rfl ?_
      refine XS.lconst X31.here hx rfl (hb hby at_376) ?_
      refine XS.lcmp X31.here hx rfl (hb hby at_377) rfl ?_
      exact k
    obtain ⟨ok1, JO1, a48⟩ : ∃ (ok1 : Int32), ((ok1 = 1 ∧ OwnOk k1v dd) ∨ (ok1 = 0 ∧ ¬ OwnOk k1v dd)) ∧ ∀ t, Steps p.tables e below (T31.setTop (mkF m 395 #[.val (.int p0), .val (.int p1), .val (.int p2), .val (.int p3), .val (.int p4), .val (.int cs), .val (.int wd), .val (.int sd), .val (.int (3 : Int32)), .val (.int dd), .val (.long a0v), .second, .val (.long a1v), .second, .val (.long aN), .second, .val (.long k0v), .second, .val (.long k1v), .second, .val (.long kN), .second, .val (.ref b16), .val .null, .val (.int ok0), .unset, s26, s27, .unset, .unset, .unset, .unset, .unset] [(.int ok1)])) t → Steps p.tables e below (s₁.setTop (mkF m 130 #[.val (.int p0), .val (.int p1), .val (.int p2), .val (.int p3), .val (.int p4), .val (.int cs), .val (.int wd), .val (.int sd), .val (.int (3 : Int32)), .val (.int dd), .val (.long a0v), .second, .val (.long a1v), .second, .val (.long a2v), .second, .val (.long k0v), .second, .val (.long k1v), .second, .val (.long k2v), .second, .unset, .unset, .unset, .unset, .unset, .unset, .unset, .unset, .unset, .unset, .unset] [])) t := by
      by_cases hc378_42 : k1v < (0 : Int64)
      ·
        have a43 : ∀ t, Steps p.tables e below (T31.setTop (mkF m 395 #[.val (.int p0), .val (.int p1), .val (.int p2), .val (.int p3), .val (.int p4), .val (.int cs), .val (.int wd), .val (.int sd), .val (.int (3 : Int32)), .val (.int dd), .val (.long a0v), .second, .val (.long a1v), .second, .val (.long aN), .second, .val (.long k0v), .second, .val (.long k1v), .second, .val (.long kN), .second, .val (.ref b16), .val .null, .val (.int ok0), .unset, s26, s27, .unset, .unset, .unset, .unset, .unset] [(.int (0 : Int32))])) t → Steps p.tables e below (s₁.setTop (mkF m 130 #[.val (.int p0), .val (.int p1), .val (.int p2), .val (.int p3), .val (.int p4), .val (.int cs), .val (.int wd), .val (.int sd), .val (.int (3 : Int32)), .val (.int dd), .val (.long a0v), .second, .val (.long a1v), .second, .val (.long a2v), .second, .val (.long k0v), .second, .val (.long k1v), .second, .val (.long k2v), .second, .unset, .unset, .unset, .unset, .unset, .unset, .unset, .unset, .unset, .unset, .unset] [])) t := by
          intro t k
          refine a41 t ?_
          show Steps p.tables e below (T31.setTop (mkF m 378 #[.val (.int p0), .val (.int p1), .val (.int p2), .val (.int p3), .val (.int p4), .val (.int cs), .val (.int wd), .val (.int sd), .val (.int (3 : Int32)), .val (.int dd), .val (.long a0v), .second, .val (.long a1v), .second, .val (.long aN), .second, .val (.long k0v), .second, .val (.long k1v), .second, .val (.long kN), .second, .val (.ref b16), .val .null, .val (.int ok0), .unset, s26, s27, .unset, .unset, .unset, .unset, .unset] [(.int (lcmpW k1v (0 : Int64)))])) _
          refine XS.ifYes X31.here hx rfl (pc0 := 378) (pc' := 394) rfl (hb hby at_378) rfl ((if0 _ _).trans (tlt ((lw_lt k1v (0 : Int64)).mpr hc378_42)).1) (by decide) (by decide) ?_
          refine XS.iconst X31.here hx rfl (hb hby at_394) ?_
          exact k
        exact ⟨(0 : Int32), Or.inr ⟨rfl, own_not_ok (Or.inl hc378_42)⟩, a43⟩
      ·
        have a44 : ∀ t, Steps p.tables e below (T31.setTop (mkF m 387 #[.val (.int p0), .val (.int p1), .val (.int p2), .val (.int p3), .val (.int p4), .val (.int cs), .val (.int wd), .val (.int sd), .val (.int (3 : Int32)), .val (.int dd), .val (.long a0v), .second, .val (.long a1v), .second, .val (.long aN), .second, .val (.long k0v), .second, .val (.long k1v), .second, .val (.long kN), .second, .val (.ref b16), .val .null, .val (.int ok0), .unset, s26, s27, .unset, .unset, .unset, .unset, .unset] [(.int (lcmpW k1v (dd.toInt64)))])) t → Steps p.tables e below (s₁.setTop (mkF m 130 #[.val (.int p0), .val (.int p1), .val (.int p2), .val (.int p3), .val (.int p4), .val (.int cs), .val (.int wd), .val (.int sd), .val (.int (3 : Int32)), .val (.int dd), .val (.long a0v), .second, .val (.long a1v), .second, .val (.long a2v), .second, .val (.long k0v), .second, .val (.long k1v), .second, .val (.long k2v), .second, .unset, .unset, .unset, .unset, .unset, .unset, .unset, .unset, .unset, .unset, .unset] [])) t := by
          intro t k
          refine a41 t ?_
          show Steps p.tables e below (T31.setTop (mkF m 378 #[.val (.int p0), .val (.int p1), .val (.int p2), .val (.int p3), .val (.int p4), .val (.int cs), .val (.int wd), .val (.int sd), .val (.int (3 : Int32)), .val (.int dd), .val (.long a0v), .second, .val (.long a1v), .second, .val (.long aN), .second, .val (.long k0v), .second, .val (.long k1v), .second, .val (.long kN), .second, .val (.ref b16), .val .null, .val (.int ok0), .unset, s26, s27, .unset, .unset, .unset, .unset, .unset] [(.int (lcmpW k1v (0 : Int64)))])) _
          refine XS.ifNo X31.here hx rfl (hb hby at_378) rfl ((if0 _ _).trans (flt (fun q => hc378_42 ((lw_lt k1v (0 : Int64)).mp q))).1) ?_
          refine XS.lload X31.here hx rfl (hb hby at_381) rfl ?_
          refine XS.iload X31.here hx rfl (hb hby at_383) rfl ?_
          refine XS.i2l X31.here hx rfl (hb hby at_385) rfl ?_
          refine XS.lcmp X31.here hx rfl (hb hby at_386) rfl ?_
          exact k
        by_cases hc387_45 : (dd.toInt64) < k1v
        ·
          have a46 : ∀ t, Steps p.tables e below (T31.setTop (mkF m 395 #[.val (.int p0), .val (.int p1), .val (.int p2), .val (.int p3), .val (.int p4), .val (.int cs), .val (.int wd), .val (.int sd), .val (.int (3 : Int32)), .val (.int dd), .val (.long a0v), .second, .val (.long a1v), .second, .val (.long aN), .second, .val (.long k0v), .second, .val (.long k1v), .second, .val (.long kN), .second, .val (.ref b16), .val .null, .val (.int ok0), .unset, s26, s27, .unset, .unset, .unset, .unset, .unset] [(.int (0 : Int32))])) t → Steps p.tables e below (s₁.setTop (mkF m 130 #[.val (.int p0), .val (.int p1), .val (.int p2), .val (.int p3), .val (.int p4), .val (.int cs), .val (.int wd), .val (.int sd), .val (.int (3 : Int32)), .val (.int dd), .val (.long a0v), .second, .val (.long a1v), .second, .val (.long a2v), .second, .val (.long k0v), .second, .val (.long k1v), .second, .val (.long k2v), .second, .unset, .unset, .unset, .unset, .unset, .unset, .unset, .unset, .unset, .unset, .unset] [])) t := by
            intro t k
            refine a44 t ?_
            show Steps p.tables e below (T31.setTop (mkF m 387 #[.val (.int p0), .val (.int p1), .val (.int p2), .val (.int p3), .val (.int p4), .val (.int cs), .val (.int wd), .val (.int sd), .val (.int (3 : Int32)), .val (.int dd), .val (.long a0v), .second, .val (.long a1v), .second, .val (.long aN), .second, .val (.long k0v), .second, .val (.long k1v), .second, .val (.long kN), .second, .val (.ref b16), .val .null, .val (.int ok0), .unset, s26, s27, .unset, .unset, .unset, .unset, .unset] [(.int (lcmpW k1v (dd.toInt64)))])) _
            refine XS.ifYes X31.here hx rfl (pc0 := 387) (pc' := 394) rfl (hb hby at_387) rfl ((if0 _ _).trans (tlt ((lw_gt k1v (dd.toInt64)).mpr hc387_45)).2.2.1) (by decide) (by decide) ?_
            refine XS.iconst X31.here hx rfl (hb hby at_394) ?_
            exact k
          exact ⟨(0 : Int32), Or.inr ⟨rfl, own_not_ok (Or.inr hc387_45)⟩, a46⟩
        ·
          have a47 : ∀ t, Steps p.tables e below (T31.setTop (mkF m 395 #[.val (.int p0), .val (.int p1), .val (.int p2), .val (.int p3), .val (.int p4), .val (.int cs), .val (.int wd), .val (.int sd), .val (.int (3 : Int32)), .val (.int dd), .val (.long a0v), .second, .val (.long a1v), .second, .val (.long aN), .second, .val (.long k0v), .second, .val (.long k1v), .second, .val (.long kN), .second, .val (.ref b16), .val .null, .val (.int ok0), .unset, s26, s27, .unset, .unset, .unset, .unset, .unset] [(.int (1 : Int32))])) t → Steps p.tables e below (s₁.setTop (mkF m 130 #[.val (.int p0), .val (.int p1), .val (.int p2), .val (.int p3), .val (.int p4), .val (.int cs), .val (.int wd), .val (.int sd), .val (.int (3 : Int32)), .val (.int dd), .val (.long a0v), .second, .val (.long a1v), .second, .val (.long a2v), .second, .val (.long k0v), .second, .val (.long k1v), .second, .val (.long k2v), .second, .unset, .unset, .unset, .unset, .unset, .unset, .unset, .unset, .unset, .unset, .unset] [])) t := by
            intro t k
            refine a44 t ?_
            show Steps p.tables e below (T31.setTop (mkF m 387 #[.val (.int p0), .val (.int p1), .val (.int p2), .val (.int p3), .val (.int p4), .val (.int cs), .val (.int wd), .val (.int sd), .val (.int (3 : Int32)), .val (.int dd), .val (.long a0v), .second, .val (.long a1v), .second, .val (.long aN), .second, .val (.long k0v), .second, .val (.long k1v), .second, .val (.long kN), .second, .val (.ref b16), .val .null, .val (.int ok0), .unset, s26, s27, .unset, .unset, .unset, .unset, .unset] [(.int (lcmpW k1v (dd.toInt64)))])) _
            refine XS.ifNo X31.here hx rfl (hb hby at_387) rfl ((if0 _ _).trans (flt (fun q => hc387_45 ((lw_gt k1v (dd.toInt64)).mp q))).2.2.1) ?_
            refine XS.iconst X31.here hx rfl (hb hby at_390) ?_
            refine XS.goto X31.here hx rfl (pc0 := 391) (pc' := 395) rfl (hb hby at_391) (by decide) (by decide) ?_
            exact k
          exact ⟨(1 : Int32), Or.inl ⟨rfl, own_is_ok hc378_42 hc387_45⟩, a47⟩
    have a49 : ∀ t, Steps p.tables e below (T31.setTop (mkF m 407 #[.val (.int p0), .val (.int p1), .val (.int p2), .val (.int p3), .val (.int p4), .val (.int cs), .val (.int wd), .val (.int sd), .val (.int (3 : Int32)), .val (.int dd), .val (.long a0v), .second, .val (.long a1v), .second, .val (.long aN), .second, .val (.long k0v), .second, .val (.long k1v), .second, .val (.long kN), .second, .val (.ref b16), .val .null, .val (.int ok0), .val (.int ok1), s26, s27, .unset, .unset, .unset, .unset, .unset] [(.int (lcmpW kN (0 : Int64)))])) t → Steps p.tables e below (s₁.setTop (mkF m 130 #[.val (.int p0), .val (.int p1), .val (.int p2), .val (.int p3), .val (.int p4), .val (.int cs), .val (.int wd), .val (.int sd), .val (.int (3 : Int32)), .val (.int dd), .val (.long a0v), .second, .val (.long a1v), .second, .val (.long a2v), .second, .val (.long k0v), .second, .val (.long k1v), .second, .val (.long k2v), .second, .unset, .unset, .unset, .unset, .unset, .unset, .unset, .unset, .unset, .unset, .unset] [])) t := by
      intro t k
      refine a48 t ?_
      show Steps p.tables e below (T31.setTop (mkF m 395 #[.val (.int p0), .val (.int p1), .val (.int p2), .val (.int p3), .val (.int p4), .val (.int cs), .val (.int wd), .val (.int sd), .val (.int (3 : Int32)), .val (.int dd), .val (.long a0v), .second, .val (.long a1v), .second, .val (.long aN), .second, .val (.long k0v), .second, .val (.long k1v), .second, .val (.long kN), .second, .val (.ref b16), .val .null, .val (.int ok0), .unset, s26, s27, .unset, .unset, .unset, .unset, .unset] [(.int ok1)])) _
      refine XS.istore X31.here hx rfl (hb hby at_395) rfl (l' := #[.val (.int p0), .val (.int p1), .val (.int p2), .val (.int p3), .val (.int p4), .val (.int cs), .val (.int wd), .val (.int sd), .val (.int (3 : Int32)), .val (.int dd), .val (.long a0v), .second, .val (.long a1v), .second, .val (.long aN), .second, .val (.long k0v), .second, .val (.long k1v), .second, .val (.long kN), .second, .val (.ref b16), .val .null, .val (.int ok0), .val (.int ok1), s26, s27, .unset, .unset, .unset, .unset, .unset]) rfl ?_
      refine XS.iload X31.here hx rfl (hb hby at_397) rfl ?_
      refine XS.iconst X31.here hx rfl (hb hby at_399) ?_
      refine XS.icmpNo X31.here hx rfl (hb hby at_400) rfl (flt (by decide)).1 ?_
      refine XS.lload X31.here hx rfl (hb hby at_403) rfl ?_
      refine XS.lconst X31.here hx rfl (hb hby at_405) ?_
      refine XS.lcmp X31.here hx rfl (hb hby at_406) rfl ?_
      exact k
    obtain ⟨ok2, JO2, a56⟩ : ∃ (ok2 : Int32), ((ok2 = 1 ∧ OwnOk kN dd) ∨ (ok2 = 0 ∧ ¬ OwnOk kN dd)) ∧ ∀ t, Steps p.tables e below (T31.setTop (mkF m 424 #[.val (.int p0), .val (.int p1), .val (.int p2), .val (.int p3), .val (.int p4), .val (.int cs), .val (.int wd), .val (.int sd), .val (.int (3 : Int32)), .val (.int dd), .val (.long a0v), .second, .val (.long a1v), .second, .val (.long aN), .second, .val (.long k0v), .second, .val (.long k1v), .second, .val (.long kN), .second, .val (.ref b16), .val .null, .val (.int ok0), .val (.int ok1), s26, s27, .unset, .unset, .unset, .unset, .unset] [(.int ok2)])) t → Steps p.tables e below (s₁.setTop (mkF m 130 #[.val (.int p0), .val (.int p1), .val (.int p2), .val (.int p3), .val (.int p4), .val (.int cs), .val (.int wd), .val (.int sd), .val (.int (3 : Int32)), .val (.int dd), .val (.long a0v), .second, .val (.long a1v), .second, .val (.long a2v), .second, .val (.long k0v), .second, .val (.long k1v), .second, .val (.long k2v), .second, .unset, .unset, .unset, .unset, .unset, .unset, .unset, .unset, .unset, .unset, .unset] [])) t := by
      by_cases hc407_50 : kN < (0 : Int64)
      ·
        have a51 : ∀ t, Steps p.tables e below (T31.setTop (mkF m 424 #[.val (.int p0), .val (.int p1), .val (.int p2), .val (.int p3), .val (.int p4), .val (.int cs), .val (.int wd), .val (.int sd), .val (.int (3 : Int32)), .val (.int dd), .val (.long a0v), .second, .val (.long a1v), .second, .val (.long aN), .second, .val (.long k0v), .second, .val (.long k1v), .second, .val (.long kN), .second, .val (.ref b16), .val .null, .val (.int ok0), .val (.int ok1), s26, s27, .unset, .unset, .unset, .unset, .unset] [(.int (0 : Int32))])) t → Steps p.tables e below (s₁.setTop (mkF m 130 #[.val (.int p0), .val (.int p1), .val (.int p2), .val (.int p3), .val (.int p4), .val (.int cs), .val (.int wd), .val (.int sd), .val (.int (3 : Int32)), .val (.int dd), .val (.long a0v), .second, .val (.long a1v), .second, .val (.long a2v), .second, .val (.long k0v), .second, .val (.long k1v), .second, .val (.long k2v), .second, .unset, .unset, .unset, .unset, .unset, .unset, .unset, .unset, .unset, .unset, .unset] [])) t := by
          intro t k
          refine a49 t ?_
          show Steps p.tables e below (T31.setTop (mkF m 407 #[.val (.int p0), .val (.int p1), .val (.int p2), .val (.int p3), .val (.int p4), .val (.int cs), .val (.int wd), .val (.int sd), .val (.int (3 : Int32)), .val (.int dd), .val (.long a0v), .second, .val (.long a1v), .second, .val (.long aN), .second, .val (.long k0v), .second, .val (.long k1v), .second, .val (.long kN), .second, .val (.ref b16), .val .null, .val (.int ok0), .val (.int ok1), s26, s27, .unset, .unset, .unset, .unset, .unset] [(.int (lcmpW kN (0 : Int64)))])) _
          refine XS.ifYes X31.here hx rfl (pc0 := 407) (pc' := 423) rfl (hb hby at_407) rfl ((if0 _ _).trans (tlt ((lw_lt kN (0 : Int64)).mpr hc407_50)).1) (by decide) (by decide) ?_
          refine XS.iconst X31.here hx rfl (hb hby at_423) ?_
          exact k
        exact ⟨(0 : Int32), Or.inr ⟨rfl, own_not_ok (Or.inl hc407_50)⟩, a51⟩
      ·
        have a52 : ∀ t, Steps p.tables e below (T31.setTop (mkF m 416 #[.val (.int p0), .val (.int p1), .val (.int p2), .val (.int p3), .val (.int p4), .val (.int cs), .val (.int wd), .val (.int sd), .val (.int (3 : Int32)), .val (.int dd), .val (.long a0v), .second, .val (.long a1v), .second, .val (.long aN), .second, .val (.long k0v), .second, .val (.long k1v), .second, .val (.long kN), .second, .val (.ref b16), .val .null, .val (.int ok0), .val (.int ok1), s26, s27, .unset, .unset, .unset, .unset, .unset] [(.int (lcmpW kN (dd.toInt64)))])) t → Steps p.tables e below (s₁.setTop (mkF m 130 #[.val (.int p0), .val (.int p1), .val (.int p2), .val (.int p3), .val (.int p4), .val (.int cs), .val (.int wd), .val (.int sd), .val (.int (3 : Int32)), .val (.int dd), .val (.long a0v), .second, .val (.long a1v), .second, .val (.long a2v), .second, .val (.long k0v), .second, .val (.long k1v), .second, .val (.long k2v), .second, .unset, .unset, .unset, .unset, .unset, .unset, .unset, .unset, .unset, .unset, .unset] [])) t := by
          intro t k
          refine a49 t ?_
          show Steps p.tables e below (T31.setTop (mkF m 407 #[.val (.int p0), .val (.int p1), .val (.int p2), .val (.int p3), .val (.int p4), .val (.int cs), .val (.int wd), .val (.int sd), .val (.int (3 : Int32)), .val (.int dd), .val (.long a0v), .second, .val (.long a1v), .second, .val (.long aN), .second, .val (.long k0v), .second, .val (.long k1v), .second, .val (.long kN), .second, .val (.ref b16), .val .null, .val (.int ok0), .val (.int ok1), s26, s27, .unset, .unset, .unset, .unset, .unset] [(.int (lcmpW kN (0 : Int64)))])) _
          refine XS.ifNo X31.here hx rfl (hb hby at_407) rfl ((if0 _ _).trans (flt (fun q => hc407_50 ((lw_lt kN (0 : Int64)).mp q))).1) ?_
          refine XS.lload X31.here hx rfl (hb hby at_410) rfl ?_
          refine XS.iload X31.here hx rfl (hb hby at_412) rfl ?_
          refine XS.i2l X31.here hx rfl (hb hby at_414) rfl ?_
          refine XS.lcmp X31.here hx rfl (hb hby at_415) rfl ?_
          exact k
        by_cases hc416_53 : (dd.toInt64) < kN
        ·
          have a54 : ∀ t, Steps p.tables e below (T31.setTop (mkF m 424 #[.val (.int p0), .val (.int p1), .val (.int p2), .val (.int p3), .val (.int p4), .val (.int cs), .val (.int wd), .val (.int sd), .val (.int (3 : Int32)), .val (.int dd), .val (.long a0v), .second, .val (.long a1v), .second, .val (.long aN), .second, .val (.long k0v), .second, .val (.long k1v), .second, .val (.long kN), .second, .val (.ref b16), .val .null, .val (.int ok0), .val (.int ok1), s26, s27, .unset, .unset, .unset, .unset, .unset] [(.int (0 : Int32))])) t → Steps p.tables e below (s₁.setTop (mkF m 130 #[.val (.int p0), .val (.int p1), .val (.int p2), .val (.int p3), .val (.int p4), .val (.int cs), .val (.int wd), .val (.int sd), .val (.int (3 : Int32)), .val (.int dd), .val (.long a0v), .second, .val (.long a1v), .second, .val (.long a2v), .second, .val (.long k0v), .second, .val (.long k1v), .second, .val (.long k2v), .second, .unset, .unset, .unset, .unset, .unset, .unset, .unset, .unset, .unset, .unset, .unset] [])) t := by
            intro t k
            refine a52 t ?_
            show Steps p.tables e below (T31.setTop (mkF m 416 #[.val (.int p0), .val (.int p1), .val (.int p2), .val (.int p3), .val (.int p4), .val (.int cs), .val (.int wd), .val (.int sd), .val (.int (3 : Int32)), .val (.int dd), .val (.long a0v), .second, .val (.long a1v), .second, .val (.long aN), .second, .val (.long k0v), .second, .val (.long k1v), .second, .val (.long kN), .second, .val (.ref b16), .val .null, .val (.int ok0), .val (.int ok1), s26, s27, .unset, .unset, .unset, .unset, .unset] [(.int (lcmpW kN (dd.toInt64)))])) _
            refine XS.ifYes X31.here hx rfl (pc0 := 416) (pc' := 423) rfl (hb hby at_416) rfl ((if0 _ _).trans (tlt ((lw_gt kN (dd.toInt64)).mpr hc416_53)).2.2.1) (by decide) (by decide) ?_
            refine XS.iconst X31.here hx rfl (hb hby at_423) ?_
            exact k
          exact ⟨(0 : Int32), Or.inr ⟨rfl, own_not_ok (Or.inr hc416_53)⟩, a54⟩
        ·
          have a55 : ∀ t, Steps p.tables e below (T31.setTop (mkF m 424 #[.val (.int p0), .val (.int p1), .val (.int p2), .val (.int p3), .val (.int p4), .val (.int cs), .val (.int wd), .val (.int sd), .val (.int (3 : Int32)), .val (.int dd), .val (.long a0v), .second, .val (.long a1v), .second, .val (.long aN), .second, .val (.long k0v), .second, .val (.long k1v), .second, .val (.long kN), .second, .val (.ref b16), .val .null, .val (.int ok0), .val (.int ok1), s26, s27, .unset, .unset, .unset, .unset, .unset] [(.int (1 : Int32))])) t → Steps p.tables e below (s₁.setTop (mkF m 130 #[.val (.int p0), .val (.int p1), .val (.int p2), .val (.int p3), .val (.int p4), .val (.int cs), .val (.int wd), .val (.int sd), .val (.int (3 : Int32)), .val (.int dd), .val (.long a0v), .second, .val (.long a1v), .second, .val (.long a2v), .second, .val (.long k0v), .second, .val (.long k1v), .second, .val (.long k2v), .second, .unset, .unset, .unset, .unset, .unset, .unset, .unset, .unset, .unset, .unset, .unset] [])) t := by
            intro t k
            refine a52 t ?_
            show Steps p.tables e below (T31.setTop (mkF m 416 #[.val (.int p0), .val (.int p1), .val (.int p2), .val (.int p3), .val (.int p4), .val (.int cs), .val (.int wd), .val (.int sd), .val (.int (3 : Int32)), .val (.int dd), .val (.long a0v), .second, .val (.long a1v), .second, .val (.long aN), .second, .val (.long k0v), .second, .val (.long k1v), .second, .val (.long kN), .second, .val (.ref b16), .val .null, .val (.int ok0), .val (.int ok1), s26, s27, .unset, .unset, .unset, .unset, .unset] [(.int (lcmpW kN (dd.toInt64)))])) _
            refine XS.ifNo X31.here hx rfl (hb hby at_416) rfl ((if0 _ _).trans (flt (fun q => hc416_53 ((lw_gt kN (dd.toInt64)).mp q))).2.2.1) ?_
            refine XS.iconst X31.here hx rfl (hb hby at_419) ?_
            refine XS.goto X31.here hx rfl (pc0 := 420) (pc' := 424) rfl (hb hby at_420) (by decide) (by decide) ?_
            exact k
          exact ⟨(1 : Int32), Or.inl ⟨rfl, own_is_ok hc407_50 hc416_53⟩, a55⟩
    have a57 : ∀ t, Steps p.tables e below (T31.setTop (mkF m 468 #[.val (.int p0), .val (.int p1), .val (.int p2), .val (.int p3), .val (.int p4), .val (.int cs), .val (.int wd), .val (.int sd), .val (.int (3 : Int32)), .val (.int dd), .val (.long a0v), .second, .val (.long a1v), .second, .val (.long aN), .second, .val (.long k0v), .second, .val (.long k1v), .second, .val (.long kN), .second, .val (.ref b16), .val .null, .val (.int ok0), .val (.int ok1), .val (.int ok2), .val (.long ((k0v + k1v) + kN)), .second, .unset, .unset, .unset, .unset] [(.int ok0)])) t → Steps p.tables e below (s₁.setTop (mkF m 130 #[.val (.int p0), .val (.int p1), .val (.int p2), .val (.int p3), .val (.int p4), .val (.int cs), .val (.int wd), .val (.int sd), .val (.int (3 : Int32)), .val (.int dd), .val (.long a0v), .second, .val (.long a1v), .second, .val (.long a2v), .second, .val (.long k0v), .second, .val (.long k1v), .second, .val (.long k2v), .second, .unset, .unset, .unset, .unset, .unset, .unset, .unset, .unset, .unset, .unset, .unset] [])) t := by
      intro t k
      refine a56 t ?_
      show Steps p.tables e below (T31.setTop (mkF m 424 #[.val (.int p0), .val (.int p1), .val (.int p2), .val (.int p3), .val (.int p4), .val (.int cs), .val (.int wd), .val (.int sd), .val (.int (3 : Int32)), .val (.int dd), .val (.long a0v), .second, .val (.long a1v), .second, .val (.long aN), .second, .val (.long k0v), .second, .val (.long k1v), .second, .val (.long kN), .second, .val (.ref b16), .val .null, .val (.int ok0), .val (.int ok1), s26, s27, .unset, .unset, .unset, .unset, .unset] [(.int ok2)])) _
      refine XS.istore X31.here hx rfl (hb hby at_424) rfl (l' := #[.val (.int p0), .val (.int p1), .val (.int p2), .val (.int p3), .val (.int p4), .val (.int cs), .val (.int wd), .val (.int sd), .val (.int (3 : Int32)), .val (.int dd), .val (.long a0v), .second, .val (.long a1v), .second, .val (.long aN), .second, .val (.long k0v), .second, .val (.long k1v), .second, .val (.long kN), .second, .val (.ref b16), .val .null, .val (.int ok0), .val (.int ok1), .val (.int ok2), .unset, .unset, .unset, .unset, .unset, .unset]) (by rcases JS26 with ⟨rfl, rfl⟩ | ⟨z, rfl, rfl⟩ <;> rfl) ?_
      refine XS.iload X31.here hx rfl (hb hby at_426) rfl ?_
      refine XS.iconst X31.here hx rfl (hb hby at_428) ?_
      refine XS.icmpNo X31.here hx rfl (hb hby at_429) rfl (flt (by decide)).1 ?_
      refine XS.lload X31.here hx rfl (hb hby at_432) rfl ?_
      refine XS.goto X31.here hx rfl (pc0 := 434) (pc' := 438) rfl (hb hby at_434) (by decide) (by decide) ?_
      refine XS.iload X31.here hx rfl (hb hby at_438) rfl ?_
      refine XS.iconst X31.here hx rfl (hb hby at_440) ?_
      refine XS.icmpNo X31.here hx rfl (hb hby at_441) rfl (flt (by decide)).1 ?_
      refine XS.lload X31.here hx rfl (hb hby at_444) rfl ?_
      refine XS.goto X31.here hx rfl (pc0 := 446) (pc' := 450) rfl (hb hby at_446) (by decide) (by decide) ?_
      refine XS.ladd X31.here hx rfl (hb hby at_450) rfl ?_
      refine XS.iload X31.here hx rfl (hb hby at_451) rfl ?_
      refine XS.iconst X31.here hx rfl (hb hby at_453) ?_
      refine XS.icmpNo X31.here hx rfl (hb hby at_454) rfl (flt (by decide)).1 ?_
      refine XS.lload X31.here hx rfl (hb hby at_457) rfl ?_
      refine XS.goto X31.here hx rfl (pc0 := 459) (pc' := 463) rfl (hb hby at_459) (by decide) (by decide) ?_
      refine XS.ladd X31.here hx rfl (hb hby at_463) rfl ?_
      refine XS.lstore X31.here hx rfl (hb hby at_464) rfl (l' := #[.val (.int p0), .val (.int p1), .val (.int p2), .val (.int p3), .val (.int p4), .val (.int cs), .val (.int wd), .val (.int sd), .val (.int (3 : Int32)), .val (.int dd), .val (.long a0v), .second, .val (.long a1v), .second, .val (.long aN), .second, .val (.long k0v), .second, .val (.long k1v), .second, .val (.long kN), .second, .val (.ref b16), .val .null, .val (.int ok0), .val (.int ok1), .val (.int ok2), .val (.long ((k0v + k1v) + kN)), .second, .unset, .unset, .unset, .unset]) rfl ?_
      refine XS.iload X31.here hx rfl (hb hby at_466) rfl ?_
      exact k
    by_cases hc468_58 : ok0 = (0 : Int32)
    ·
      have a59 : ∀ t, Steps p.tables e below (T31.setTop (mkF m 512 #[.val (.int p0), .val (.int p1), .val (.int p2), .val (.int p3), .val (.int p4), .val (.int cs), .val (.int wd), .val (.int sd), .val (.int (3 : Int32)), .val (.int dd), .val (.long a0v), .second, .val (.long a1v), .second, .val (.long aN), .second, .val (.long k0v), .second, .val (.long k1v), .second, .val (.long kN), .second, .val (.ref b16), .val .null, .val (.int ok0), .val (.int ok1), .val (.int ok2), .val (.long ((k0v + k1v) + kN)), .second, .val (.int (0 : Int32)), .unset, .unset, .unset] [(.int (1 : Int32))])) t → Steps p.tables e below (s₁.setTop (mkF m 130 #[.val (.int p0), .val (.int p1), .val (.int p2), .val (.int p3), .val (.int p4), .val (.int cs), .val (.int wd), .val (.int sd), .val (.int (3 : Int32)), .val (.int dd), .val (.long a0v), .second, .val (.long a1v), .second, .val (.long a2v), .second, .val (.long k0v), .second, .val (.long k1v), .second, .val (.long k2v), .second, .unset, .unset, .unset, .unset, .unset, .unset, .unset, .unset, .unset, .unset, .unset] [])) t := by
        intro t k
        refine a57 t ?_
        show Steps p.tables e below (T31.setTop (mkF m 468 #[.val (.int p0), .val (.int p1), .val (.int p2), .val (.int p3), .val (.int p4), .val (.int cs), .val (.int wd), .val (.int sd), .val (.int (3 : Int32)), .val (.int dd), .val (.long a0v), .second, .val (.long a1v), .second, .val (.long aN), .second, .val (.long k0v), .second, .val (.long k1v), .second, .val (.long kN), .second, .val (.ref b16), .val .null, .val (.int ok0), .val (.int ok1), .val (.int ok2), .val (.long ((k0v + k1v) + kN)), .second, .unset, .unset, .unset, .unset] [(.int ok0)])) _
        refine XS.ifYes X31.here hx rfl (pc0 := 468) (pc' := 494) rfl (hb hby at_468) rfl ((if0 _ _).trans (teq hc468_58).1) (by decide) (by decide) ?_
        refine XS.iconst X31.here hx rfl (hb hby at_494) ?_
        refine XS.istore X31.here hx rfl (hb hby at_495) rfl (l' := #[.val (.int p0), .val (.int p1), .val (.int p2), .val (.int p3), .val (.int p4), .val (.int cs), .val (.int wd), .val (.int sd), .val (.int (3 : Int32)), .val (.int dd), .val (.long a0v), .second, .val (.long a1v), .second, .val (.long aN), .second, .val (.long k0v), .second, .val (.long k1v), .second, .val (.long kN), .second, .val (.ref b16), .val .null, .val (.int ok0), .val (.int ok1), .val (.int ok2), .val (.long ((k0v + k1v) + kN)), .second, .val (.int (0 : Int32)), .unset, .unset, .unset]) rfl ?_
        refine XS.iload X31.here hx rfl (hb hby at_497) rfl ?_
        refine XS.ifNo X31.here hx rfl (hb hby at_499) rfl ((if0 _ _).trans (teq (by decide)).2) ?_
        refine XS.aload X31.here hx rfl (hb hby at_502) rfl rfl ?_
        refine XS.ifnonnullNo X31.here hx rfl (hb hby at_504) rfl ?_
        refine XS.iconst X31.here hx rfl (hb hby at_507) ?_
        refine XS.goto X31.here hx rfl (pc0 := 508) (pc' := 512) rfl (hb hby at_508) (by decide) (by decide) ?_
        exact k
      obtain ⟨fs, hr, hrun, hended, hW, hsame⟩ := X31.leave (v := some (.int (1 : Int32))) (fun h => by rw [Bd.returns] at h; cases h)
      refine ⟨_, _, a59 _ ?_, hrun, hended, _, _, rfl, ?_, ⟨_, rfl⟩, hW, hsame.mono (by decide) (by decide)⟩
      · show Steps p.tables e below (T31.setTop (mkF m 512 #[.val (.int p0), .val (.int p1), .val (.int p2), .val (.int p3), .val (.int p4), .val (.int cs), .val (.int wd), .val (.int sd), .val (.int (3 : Int32)), .val (.int dd), .val (.long a0v), .second, .val (.long a1v), .second, .val (.long aN), .second, .val (.long k0v), .second, .val (.long k1v), .second, .val (.long kN), .second, .val (.ref b16), .val .null, .val (.int ok0), .val (.int ok1), .val (.int ok2), .val (.long ((k0v + k1v) + kN)), .second, .val (.int (0 : Int32)), .unset, .unset, .unset] [(.int (1 : Int32))])) _
        exact retN X31 hx (t := .boolean) Bd.returns (by simp) (hb hby at_512) hr
      · show Q0 Z p0 p1 p2 p3 p4 h0 n0 _ T31.heap _
        exact ⟨rfl, N31⟩
    ·
      have a60 : ∀ t, Steps p.tables e below (T31.setTop (mkF m 473 #[.val (.int p0), .val (.int p1), .val (.int p2), .val (.int p3), .val (.int p4), .val (.int cs), .val (.int wd), .val (.int sd), .val (.int (3 : Int32)), .val (.int dd), .val (.long a0v), .second, .val (.long a1v), .second, .val (.long aN), .second, .val (.long k0v), .second, .val (.long k1v), .second, .val (.long kN), .second, .val (.ref b16), .val .null, .val (.int ok0), .val (.int ok1), .val (.int ok2), .val (.long ((k0v + k1v) + kN)), .second, .unset, .unset, .unset, .unset] [(.int ok1)])) t → Steps p.tables e below (s₁.setTop (mkF m 130 #[.val (.int p0), .val (.int p1), .val (.int p2), .val (.int p3), .val (.int p4), .val (.int cs), .val (.int wd), .val (.int sd), .val (.int (3 : Int32)), .val (.int dd), .val (.long a0v), .second, .val (.long a1v), .second, .val (.long a2v), .second, .val (.long k0v), .second, .val (.long k1v), .second, .val (.long k2v), .second, .unset, .unset, .unset, .unset, .unset, .unset, .unset, .unset, .unset, .unset, .unset] [])) t := by
        intro t k
        refine a57 t ?_
        show Steps p.tables e below (T31.setTop (mkF m 468 #[.val (.int p0), .val (.int p1), .val (.int p2), .val (.int p3), .val (.int p4), .val (.int cs), .val (.int wd), .val (.int sd), .val (.int (3 : Int32)), .val (.int dd), .val (.long a0v), .second, .val (.long a1v), .second, .val (.long aN), .second, .val (.long k0v), .second, .val (.long k1v), .second, .val (.long kN), .second, .val (.ref b16), .val .null, .val (.int ok0), .val (.int ok1), .val (.int ok2), .val (.long ((k0v + k1v) + kN)), .second, .unset, .unset, .unset, .unset] [(.int ok0)])) _
        refine XS.ifNo X31.here hx rfl (hb hby at_468) rfl ((if0 _ _).trans (feq hc468_58).1) ?_
        refine XS.iload X31.here hx rfl (hb hby at_471) rfl ?_
        exact k
      by_cases hc473_61 : ok1 = (0 : Int32)
      ·
        have a62 : ∀ t, Steps p.tables e below (T31.setTop (mkF m 512 #[.val (.int p0), .val (.int p1), .val (.int p2), .val (.int p3), .val (.int p4), .val (.int cs), .val (.int wd), .val (.int sd), .val (.int (3 : Int32)), .val (.int dd), .val (.long a0v), .second, .val (.long a1v), .second, .val (.long aN), .second, .val (.long k0v), .second, .val (.long k1v), .second, .val (.long kN), .second, .val (.ref b16), .val .null, .val (.int ok0), .val (.int ok1), .val (.int ok2), .val (.long ((k0v + k1v) + kN)), .second, .val (.int (0 : Int32)), .unset, .unset, .unset] [(.int (1 : Int32))])) t → Steps p.tables e below (s₁.setTop (mkF m 130 #[.val (.int p0), .val (.int p1), .val (.int p2), .val (.int p3), .val (.int p4), .val (.int cs), .val (.int wd), .val (.int sd), .val (.int (3 : Int32)), .val (.int dd), .val (.long a0v), .second, .val (.long a1v), .second, .val (.long a2v), .second, .val (.long k0v), .second, .val (.long k1v), .second, .val (.long k2v), .second, .unset, .unset, .unset, .unset, .unset, .unset, .unset, .unset, .unset, .unset, .unset] [])) t := by
          intro t k
          refine a60 t ?_
          show Steps p.tables e below (T31.setTop (mkF m 473 #[.val (.int p0), .val (.int p1), .val (.int p2), .val (.int p3), .val (.int p4), .val (.int cs), .val (.int wd), .val (.int sd), .val (.int (3 : Int32)), .val (.int dd), .val (.long a0v), .second, .val (.long a1v), .second, .val (.long aN), .second, .val (.long k0v), .second, .val (.long k1v), .second, .val (.long kN), .second, .val (.ref b16), .val .null, .val (.int ok0), .val (.int ok1), .val (.int ok2), .val (.long ((k0v + k1v) + kN)), .second, .unset, .unset, .unset, .unset] [(.int ok1)])) _
          refine XS.ifYes X31.here hx rfl (pc0 := 473) (pc' := 494) rfl (hb hby at_473) rfl ((if0 _ _).trans (teq hc473_61).1) (by decide) (by decide) ?_
          refine XS.iconst X31.here hx rfl (hb hby at_494) ?_
          refine XS.istore X31.here hx rfl (hb hby at_495) rfl (l' := #[.val (.int p0), .val (.int p1), .val (.int p2), .val (.int p3), .val (.int p4), .val (.int cs), .val (.int wd), .val (.int sd), .val (.int (3 : Int32)), .val (.int dd), .val (.long a0v), .second, .val (.long a1v), .second, .val (.long aN), .second, .val (.long k0v), .second, .val (.long k1v), .second, .val (.long kN), .second, .val (.ref b16), .val .null, .val (.int ok0), .val (.int ok1), .val (.int ok2), .val (.long ((k0v + k1v) + kN)), .second, .val (.int (0 : Int32)), .unset, .unset, .unset]) rfl ?_
          refine XS.iload X31.here hx rfl (hb hby at_497) rfl ?_
          refine XS.ifNo X31.here hx rfl (hb hby at_499) rfl ((if0 _ _).trans (teq (by decide)).2) ?_
          refine XS.aload X31.here hx rfl (hb hby at_502) rfl rfl ?_
          refine XS.ifnonnullNo X31.here hx rfl (hb hby at_504) rfl ?_
          refine XS.iconst X31.here hx rfl (hb hby at_507) ?_
          refine XS.goto X31.here hx rfl (pc0 := 508) (pc' := 512) rfl (hb hby at_508) (by decide) (by decide) ?_
          exact k
        obtain ⟨fs, hr, hrun, hended, hW, hsame⟩ := X31.leave (v := some (.int (1 : Int32))) (fun h => by rw [Bd.returns] at h; cases h)
        refine ⟨_, _, a62 _ ?_, hrun, hended, _, _, rfl, ?_, ⟨_, rfl⟩, hW, hsame.mono (by decide) (by decide)⟩
        · show Steps p.tables e below (T31.setTop (mkF m 512 #[.val (.int p0), .val (.int p1), .val (.int p2), .val (.int p3), .val (.int p4), .val (.int cs), .val (.int wd), .val (.int sd), .val (.int (3 : Int32)), .val (.int dd), .val (.long a0v), .second, .val (.long a1v), .second, .val (.long aN), .second, .val (.long k0v), .second, .val (.long k1v), .second, .val (.long kN), .second, .val (.ref b16), .val .null, .val (.int ok0), .val (.int ok1), .val (.int ok2), .val (.long ((k0v + k1v) + kN)), .second, .val (.int (0 : Int32)), .unset, .unset, .unset] [(.int (1 : Int32))])) _
          exact retN X31 hx (t := .boolean) Bd.returns (by simp) (hb hby at_512) hr
        · show Q0 Z p0 p1 p2 p3 p4 h0 n0 _ T31.heap _
          exact ⟨rfl, N31⟩
      ·
        have a63 : ∀ t, Steps p.tables e below (T31.setTop (mkF m 478 #[.val (.int p0), .val (.int p1), .val (.int p2), .val (.int p3), .val (.int p4), .val (.int cs), .val (.int wd), .val (.int sd), .val (.int (3 : Int32)), .val (.int dd), .val (.long a0v), .second, .val (.long a1v), .second, .val (.long aN), .second, .val (.long k0v), .second, .val (.long k1v), .second, .val (.long kN), .second, .val (.ref b16), .val .null, .val (.int ok0), .val (.int ok1), .val (.int ok2), .val (.long ((k0v + k1v) + kN)), .second, .unset, .unset, .unset, .unset] [(.int ok2)])) t → Steps p.tables e below (s₁.setTop (mkF m 130 #[.val (.int p0), .val (.int p1), .val (.int p2), .val (.int p3), .val (.int p4), .val (.int cs), .val (.int wd), .val (.int sd), .val (.int (3 : Int32)), .val (.int dd), .val (.long a0v), .second, .val (.long a1v), .second, .val (.long a2v), .second, .val (.long k0v), .second, .val (.long k1v), .second, .val (.long k2v), .second, .unset, .unset, .unset, .unset, .unset, .unset, .unset, .unset, .unset, .unset, .unset] [])) t := by
          intro t k
          refine a60 t ?_
          show Steps p.tables e below (T31.setTop (mkF m 473 #[.val (.int p0), .val (.int p1), .val (.int p2), .val (.int p3), .val (.int p4), .val (.int cs), .val (.int wd), .val (.int sd), .val (.int (3 : Int32)), .val (.int dd), .val (.long a0v), .second, .val (.long a1v), .second, .val (.long aN), .second, .val (.long k0v), .second, .val (.long k1v), .second, .val (.long kN), .second, .val (.ref b16), .val .null, .val (.int ok0), .val (.int ok1), .val (.int ok2), .val (.long ((k0v + k1v) + kN)), .second, .unset, .unset, .unset, .unset] [(.int ok1)])) _
          refine XS.ifNo X31.here hx rfl (hb hby at_473) rfl ((if0 _ _).trans (feq hc473_61).1) ?_
          refine XS.iload X31.here hx rfl (hb hby at_476) rfl ?_
          exact k
        by_cases hc478_64 : ok2 = (0 : Int32)
        ·
          have a65 : ∀ t, Steps p.tables e below (T31.setTop (mkF m 512 #[.val (.int p0), .val (.int p1), .val (.int p2), .val (.int p3), .val (.int p4), .val (.int cs), .val (.int wd), .val (.int sd), .val (.int (3 : Int32)), .val (.int dd), .val (.long a0v), .second, .val (.long a1v), .second, .val (.long aN), .second, .val (.long k0v), .second, .val (.long k1v), .second, .val (.long kN), .second, .val (.ref b16), .val .null, .val (.int ok0), .val (.int ok1), .val (.int ok2), .val (.long ((k0v + k1v) + kN)), .second, .val (.int (0 : Int32)), .unset, .unset, .unset] [(.int (1 : Int32))])) t → Steps p.tables e below (s₁.setTop (mkF m 130 #[.val (.int p0), .val (.int p1), .val (.int p2), .val (.int p3), .val (.int p4), .val (.int cs), .val (.int wd), .val (.int sd), .val (.int (3 : Int32)), .val (.int dd), .val (.long a0v), .second, .val (.long a1v), .second, .val (.long a2v), .second, .val (.long k0v), .second, .val (.long k1v), .second, .val (.long k2v), .second, .unset, .unset, .unset, .unset, .unset, .unset, .unset, .unset, .unset, .unset, .unset] [])) t := by
            intro t k
            refine a63 t ?_
            show Steps p.tables e below (T31.setTop (mkF m 478 #[.val (.int p0), .val (.int p1), .val (.int p2), .val (.int p3), .val (.int p4), .val (.int cs), .val (.int wd), .val (.int sd), .val (.int (3 : Int32)), .val (.int dd), .val (.long a0v), .second, .val (.long a1v), .second, .val (.long aN), .second, .val (.long k0v), .second, .val (.long k1v), .second, .val (.long kN), .second, .val (.ref b16), .val .null, .val (.int ok0), .val (.int ok1), .val (.int ok2), .val (.long ((k0v + k1v) + kN)), .second, .unset, .unset, .unset, .unset] [(.int ok2)])) _
            refine XS.ifYes X31.here hx rfl (pc0 := 478) (pc' := 494) rfl (hb hby at_478) rfl ((if0 _ _).trans (teq hc478_64).1) (by decide) (by decide) ?_
            refine XS.iconst X31.here hx rfl (hb hby at_494) ?_
            refine XS.istore X31.here hx rfl (hb hby at_495) rfl (l' := #[.val (.int p0), .val (.int p1), .val (.int p2), .val (.int p3), .val (.int p4), .val (.int cs), .val (.int wd), .val (.int sd), .val (.int (3 : Int32)), .val (.int dd), .val (.long a0v), .second, .val (.long a1v), .second, .val (.long aN), .second, .val (.long k0v), .second, .val (.long k1v), .second, .val (.long kN), .second, .val (.ref b16), .val .null, .val (.int ok0), .val (.int ok1), .val (.int ok2), .val (.long ((k0v + k1v) + kN)), .second, .val (.int (0 : Int32)), .unset, .unset, .unset]) rfl ?_
            refine XS.iload X31.here hx rfl (hb hby at_497) rfl ?_
            refine XS.ifNo X31.here hx rfl (hb hby at_499) rfl ((if0 _ _).trans (teq (by decide)).2) ?_
            refine XS.aload X31.here hx rfl (hb hby at_502) rfl rfl ?_
            refine XS.ifnonnullNo X31.here hx rfl (hb hby at_504) rfl ?_
            refine XS.iconst X31.here hx rfl (hb hby at_507) ?_
            refine XS.goto X31.here hx rfl (pc0 := 508) (pc' := 512) rfl (hb hby at_508) (by decide) (by decide) ?_
            exact k
          obtain ⟨fs, hr, hrun, hended, hW, hsame⟩ := X31.leave (v := some (.int (1 : Int32))) (fun h => by rw [Bd.returns] at h; cases h)
          refine ⟨_, _, a65 _ ?_, hrun, hended, _, _, rfl, ?_, ⟨_, rfl⟩, hW, hsame.mono (by decide) (by decide)⟩
          · show Steps p.tables e below (T31.setTop (mkF m 512 #[.val (.int p0), .val (.int p1), .val (.int p2), .val (.int p3), .val (.int p4), .val (.int cs), .val (.int wd), .val (.int sd), .val (.int (3 : Int32)), .val (.int dd), .val (.long a0v), .second, .val (.long a1v), .second, .val (.long aN), .second, .val (.long k0v), .second, .val (.long k1v), .second, .val (.long kN), .second, .val (.ref b16), .val .null, .val (.int ok0), .val (.int ok1), .val (.int ok2), .val (.long ((k0v + k1v) + kN)), .second, .val (.int (0 : Int32)), .unset, .unset, .unset] [(.int (1 : Int32))])) _
            exact retN X31 hx (t := .boolean) Bd.returns (by simp) (hb hby at_512) hr
          · show Q0 Z p0 p1 p2 p3 p4 h0 n0 _ T31.heap _
            exact ⟨rfl, N31⟩
        ·
          have a66 : ∀ t, Steps p.tables e below (T31.setTop (mkF m 512 #[.val (.int p0), .val (.int p1), .val (.int p2), .val (.int p3), .val (.int p4), .val (.int cs), .val (.int wd), .val (.int sd), .val (.int (3 : Int32)), .val (.int dd), .val (.long a0v), .second, .val (.long a1v), .second, .val (.long aN), .second, .val (.long k0v), .second, .val (.long k1v), .second, .val (.long kN), .second, .val (.ref b16), .val .null, .val (.int ok0), .val (.int ok1), .val (.int ok2), .val (.long ((k0v + k1v) + kN)), .second, .val (.int (0 : Int32)), .unset, .unset, .unset] [(.int (1 : Int32))])) t → Steps p.tables e below (s₁.setTop (mkF m 130 #[.val (.int p0), .val (.int p1), .val (.int p2), .val (.int p3), .val (.int p4), .val (.int cs), .val (.int wd), .val (.int sd), .val (.int (3 : Int32)), .val (.int dd), .val (.long a0v), .second, .val (.long a1v), .second, .val (.long a2v), .second, .val (.long k0v), .second, .val (.long k1v), .second, .val (.long k2v), .second, .unset, .unset, .unset, .unset, .unset, .unset, .unset, .unset, .unset, .unset, .unset] [])) t := by
            intro t k
            refine a63 t ?_
            show Steps p.tables e below (T31.setTop (mkF m 478 #[.val (.int p0), .val (.int p1), .val (.int p2), .val (.int p3), .val (.int p4), .val (.int cs), .val (.int wd), .val (.int sd), .val (.int (3 : Int32)), .val (.int dd), .val (.long a0v), .second, .val (.long a1v), .second, .val (.long aN), .second, .val (.long k0v), .second, .val (.long k1v), .second, .val (.long kN), .second, .val (.ref b16), .val .null, .val (.int ok0), .val (.int ok1), .val (.int ok2), .val (.long ((k0v + k1v) + kN)), .second, .unset, .unset, .unset, .unset] [(.int ok2)])) _
            refine XS.ifNo X31.here hx rfl (hb hby at_478) rfl ((if0 _ _).trans (feq hc478_64).1) ?_
            refine XS.lload X31.here hx rfl (hb hby at_481) rfl ?_
            refine XS.iload X31.here hx rfl (hb hby at_483) rfl ?_
            refine XS.i2l X31.here hx rfl (hb hby at_485) rfl ?_
            refine XS.lcmp X31.here hx rfl (hb hby at_486) rfl ?_
            refine XS.ifYes X31.here hx rfl (pc0 := 487) (pc' := 494) rfl (hb hby at_487) rfl ((if0 _ _).trans (feq (fun q => (fun q => G31 ⟨(own_yes JO0 hc468_58), (own_yes JO1 hc473_61), (own_yes JO2 hc478_64), by have e := congrArg Int64.toInt q; rw [c_i2l, own_s3 hdd (own_yes JO0 hc468_58) (own_yes JO1 hc473_61) (own_yes JO2 hc478_64)] at e; exact e⟩) ((lw_eq ((k0v + k1v) + kN) (dd.toInt64)).mp q))).2) (by decide) (by decide) ?_
            refine XS.iconst X31.here hx rfl (hb hby at_494) ?_
            refine XS.istore X31.here hx rfl (hb hby at_495) rfl (l' := #[.val (.int p0), .val (.int p1), .val (.int p2), .val (.int p3), .val (.int p4), .val (.int cs), .val (.int wd), .val (.int sd), .val (.int (3 : Int32)), .val (.int dd), .val (.long a0v), .second, .val (.long a1v), .second, .val (.long aN), .second, .val (.long k0v), .second, .val (.long k1v), .second, .val (.long kN), .second, .val (.ref b16), .val .null, .val (.int ok0), .val (.int ok1), .val (.int ok2), .val (.long ((k0v + k1v) + kN)), .second, .val (.int (0 : Int32)), .unset, .unset, .unset]) rfl ?_
            refine XS.iload X31.here hx rfl (hb hby at_497) rfl ?_
            refine XS.ifNo X31.here hx rfl (hb hby at_499) rfl ((if0 _ _).trans (teq (by decide)).2) ?_
            refine XS.aload X31.here hx rfl (hb hby at_502) rfl rfl ?_
            refine XS.ifnonnullNo X31.here hx rfl (hb hby at_504) rfl ?_
            refine XS.iconst X31.here hx rfl (hb hby at_507) ?_
            refine XS.goto X31.here hx rfl (pc0 := 508) (pc' := 512) rfl (hb hby at_508) (by decide) (by decide) ?_
            exact k
          obtain ⟨fs, hr, hrun, hended, hW, hsame⟩ := X31.leave (v := some (.int (1 : Int32))) (fun h => by rw [Bd.returns] at h; cases h)
          refine ⟨_, _, a66 _ ?_, hrun, hended, _, _, rfl, ?_, ⟨_, rfl⟩, hW, hsame.mono (by decide) (by decide)⟩
          · show Steps p.tables e below (T31.setTop (mkF m 512 #[.val (.int p0), .val (.int p1), .val (.int p2), .val (.int p3), .val (.int p4), .val (.int cs), .val (.int wd), .val (.int sd), .val (.int (3 : Int32)), .val (.int dd), .val (.long a0v), .second, .val (.long a1v), .second, .val (.long aN), .second, .val (.long k0v), .second, .val (.long k1v), .second, .val (.long kN), .second, .val (.ref b16), .val .null, .val (.int ok0), .val (.int ok1), .val (.int ok2), .val (.long ((k0v + k1v) + kN)), .second, .val (.int (0 : Int32)), .unset, .unset, .unset] [(.int (1 : Int32))])) _
            exact retN X31 hx (t := .boolean) Bd.returns (by simp) (hb hby at_512) hr
          · show Q0 Z p0 p1 p2 p3 p4 h0 n0 _ T31.heap _
            exact ⟨rfl, N31⟩
  ·
    have N31 := Fr.app N28 N31q
    have KK31 : Keep h0 T31.heap [] := Keep.trans K28 K31q all0
    have a67 : ∀ t, Steps p.tables e below (T31.setTop (mkF m 337 #[.val (.int p0), .val (.int p1), .val (.int p2), .val (.int p3), .val (.int p4), .val (.int cs), .val (.int wd), .val (.int sd), .val (.int (3 : Int32)), .val (.int dd), .val (.long a0v), .second, .val (.long a1v), .second, .val (.long aN), .second, .val (.long k0v), .second, .val (.long k1v), .second, .val (.long kN), .second, .val (.ref b16), .unset, s24, s25, s26, s27, .unset, .unset, .unset, .unset, .unset] [(.ref rb31)])) t → Steps p.tables e below (s₁.setTop (mkF m 130 #[.val (.int p0), .val (.int p1), .val (.int p2), .val (.int p3), .val (.int p4), .val (.int cs), .val (.int wd), .val (.int sd), .val (.int (3 : Int32)), .val (.int dd), .val (.long a0v), .second, .val (.long a1v), .second, .val (.long a2v), .second, .val (.long k0v), .second, .val (.long k1v), .second, .val (.long k2v), .second, .unset, .unset, .unset, .unset, .unset, .unset, .unset, .unset, .unset, .unset, .unset] [])) t := fun t k => a30 t (st31 t k)
    have a68 : ∀ t, Steps p.tables e below (T31.setTop (mkF m 349 #[.val (.int p0), .val (.int p1), .val (.int p2), .val (.int p3), .val (.int p4), .val (.int cs), .val (.int wd), .val (.int sd), .val (.int (3 : Int32)), .val (.int dd), .val (.long a0v), .second, .val (.long a1v), .second, .val (.long aN), .second, .val (.long k0v), .second, .val (.long k1v), .second, .val (.long kN), .second, .val (.ref b16), .val (.ref rb31), s24, s25, s26, s27, .unset, .unset, .unset, .unset, .unset] [(.int (lcmpW k0v (0 : Int64)))])) t → Steps p.tables e below (s₁.setTop (mkF m 130 #[.val (.int p0), .val (.int p1), .val (.int p2), .val (.int p3), .val (.int p4), .val (.int cs), .val (.int wd), .val (.int sd), .val (.int (3 : Int32)), .val (.int dd), .val (.long a0v), .second, .val (.long a1v), .second, .val (.long a2v), .second, .val (.long k0v), .second, .val (.long k1v), .second, .val (.long k2v), .second, .unset, .unset, .unset, .unset, .unset, .unset, .unset, .unset, .unset, .unset, .unset] [])) t := by
      intro t k
      refine a67 t ?_
      show Steps p.tables e below (T31.setTop (mkF m 337 #[.val (.int p0), .val (.int p1), .val (.int p2), .val (.int p3), .val (.int p4), .val (.int cs), .val (.int wd), .val (.int sd), .val (.int (3 : Int32)), .val (.int dd), .val (.long a0v), .second, .val (.long a1v), .second, .val (.long aN), .second, .val (.long k0v), .second, .val (.long k1v), .second, .val (.long kN), .second, .val (.ref b16), .unset, s24, s25, s26, s27, .unset, .unset, .unset, .unset, .unset] [(.ref rb31)])) _
      refine XS.astore X31.here hx rfl (hb hby at_337) rfl rfl (l' := #[.val (.int p0), .val (.int p1), .val (.int p2), .val (.int p3), .val (.int p4), .val (.int cs), .val (.int wd), .val (.int sd), .val (.int (3 : Int32)), .val (.int dd), .val (.long a0v), .second, .val (.long a1v), .second, .val (.long aN), .second, .val (.long k0v), .second, .val (.long k1v), .second, .val (.long kN), .second, .val (.ref b16), .val (.ref rb31), s24, s25, s26, s27, .unset, .unset, .unset, .unset, .unset]) rfl ?_
      refine XS.iload X31.here hx rfl (hb hby at_339) rfl ?_
      refine XS.iconst X31.here hx rfl (hb hby at_341) ?_
      refine XS.icmpNo X31.here hx rfl (hb hby at_342) rfl (flt (by decide)).1 ?_
      refine XS.lload X31.here hx rfl (hb hby at_345) rfl ?_
      refine XS.lconst X31.here hx rfl (hb hby at_347) ?_
      refine XS.lcmp X31.here hx rfl (hb hby at_348) rfl ?_
      exact k
    obtain ⟨ok0, JO0, a75⟩ : ∃ (ok0 : Int32), ((ok0 = 1 ∧ OwnOk k0v dd) ∨ (ok0 = 0 ∧ ¬ OwnOk k0v dd)) ∧ ∀ t, Steps p.tables e below (T31.setTop (mkF m 366 #[.val (.int p0), .val (.int p1), .val (.int p2), .val (.int p3), .val (.int p4), .val (.int cs), .val (.int wd), .val (.int sd), .val (.int (3 : Int32)), .val (.int dd), .val (.long a0v), .second, .val (.long a1v), .second, .val (.long aN), .second, .val (.long k0v), .second, .val (.long k1v), .second, .val (.long kN), .second, .val (.ref b16), .val (.ref rb31), s24, s25, s26, s27, .unset, .unset, .unset, .unset, .unset] [(.int ok0)])) t → Steps p.tables e below (s₁.setTop (mkF m 130 #[.val (.int p0), .val (.int p1), .val (.int p2), .val (.int p3), .val (.int p4), .val (.int cs), .val (.int wd), .val (.int sd), .val (.int (3 : Int32)), .val (.int dd), .val (.long a0v), .second, .val (.long a1v), .second, .val (.long a2v), .second, .val (.long k0v), .second, .val (.long k1v), .second, .val (.long k2v), .second, .unset, .unset, .unset, .unset, .unset, .unset, .unset, .unset, .unset, .unset, .unset] [])) t := by
      by_cases hc349_69 : k0v < (0 : Int64)
      ·
        have a70 : ∀ t, Steps p.tables e below (T31.setTop (mkF m 366 #[.val (.int p0), .val (.int p1), .val (.int p2), .val (.int p3), .val (.int p4), .val (.int cs), .val (.int wd), .val (.int sd), .val (.int (3 : Int32)), .val (.int dd), .val (.long a0v), .second, .val (.long a1v), .second, .val (.long aN), .second, .val (.long k0v), .second, .val (.long k1v), .second, .val (.long kN), .second, .val (.ref b16), .val (.ref rb31), s24, s25, s26, s27, .unset, .unset, .unset, .unset, .unset] [(.int (0 : Int32))])) t → Steps p.tables e below (s₁.setTop (mkF m 130 #[.val (.int p0), .val (.int p1), .val (.int p2), .val (.int p3), .val (.int p4), .val (.int cs), .val (.int wd), .val (.int sd), .val (.int (3 : Int32)), .val (.int dd), .val (.long a0v), .second, .val (.long a1v), .second, .val (.long a2v), .second, .val (.long k0v), .second, .val (.long k1v), .second, .val (.long k2v), .second, .unset, .unset, .unset, .unset, .unset, .unset, .unset, .unset, .unset, .unset, .unset] [])) t := by
          intro t k
          refine a68 t ?_
          show Steps p.tables e below (T31.setTop (mkF m 349 #[.val (.int p0), .val (.int p1), .val (.int p2), .val (.int p3), .val (.int p4), .val (.int cs), .val (.int wd), .val (.int sd), .val (.int (3 : Int32)), .val (.int dd), .val (.long a0v), .second, .val (.long a1v), .second, .val (.long aN), .second, .val (.long k0v), .second, .val (.long k1v), .second, .val (.long kN), .second, .val (.ref b16), .val (.ref rb31), s24, s25, s26, s27, .unset, .unset, .unset, .unset, .unset] [(.int (lcmpW k0v (0 : Int64)))])) _
          refine XS.ifYes X31.here hx rfl (pc0 := 349) (pc' := 365) rfl (hb hby at_349) rfl ((if0 _ _).trans (tlt ((lw_lt k0v (0 : Int64)).mpr hc349_69)).1) (by decide) (by decide) ?_
          refine XS.iconst X31.here hx rfl (hb hby at_365) ?_
          exact k
        exact ⟨(0 : Int32), Or.inr ⟨rfl, own_not_ok (Or.inl hc349_69)⟩, a70⟩
      ·
        have a71 : ∀ t, Steps p.tables e below (T31.setTop (mkF m 358 #[.val (.int p0), .val (.int p1), .val (.int p2), .val (.int p3), .val (.int p4), .val (.int cs), .val (.int wd), .val (.int sd), .val (.int (3 : Int32)), .val (.int dd), .val (.long a0v), .second, .val (.long a1v), .second, .val (.long aN), .second, .val (.long k0v), .second, .val (.long k1v), .second, .val (.long kN), .second, .val (.ref b16), .val (.ref rb31), s24, s25, s26, s27, .unset, .unset, .unset, .unset, .unset] [(.int (lcmpW k0v (dd.toInt64)))])) t → Steps p.tables e below (s₁.setTop (mkF m 130 #[.val (.int p0), .val (.int p1), .val (.int p2), .val (.int p3), .val (.int p4), .val (.int cs), .val (.int wd), .val (.int sd), .val (.int (3 : Int32)), .val (.int dd), .val (.long a0v), .second, .val (.long a1v), .second, .val (.long a2v), .second, .val (.long k0v), .second, .val (.long k1v), .second, .val (.long k2v), .second, .unset, .unset, .unset, .unset, .unset, .unset, .unset, .unset, .unset, .unset, .unset] [])) t := by
          intro t k
          refine a68 t ?_
          show Steps p.tables e below (T31.setTop (mkF m 349 #[.val (.int p0), .val (.int p1), .val (.int p2), .val (.int p3), .val (.int p4), .val (.int cs), .val (.int wd), .val (.int sd), .val (.int (3 : Int32)), .val (.int dd), .val (.long a0v), .second, .val (.long a1v), .second, .val (.long aN), .second, .val (.long k0v), .second, .val (.long k1v), .second, .val (.long kN), .second, .val (.ref b16), .val (.ref rb31), s24, s25, s26, s27, .unset, .unset, .unset, .unset, .unset] [(.int (lcmpW k0v (0 : Int64)))])) _
          refine XS.ifNo X31.here hx rfl (hb hby at_349) rfl ((if0 _ _).trans (flt (fun q => hc349_69 ((lw_lt k0v (0 : Int64)).mp q))).1) ?_
          refine XS.lload X31.here hx rfl (hb hby at_352) rfl ?_
          refine XS.iload X31.here hx rfl (hb hby at_354) rfl ?_
          refine XS.i2l X31.here hx rfl (hb hby at_356) rfl ?_
          refine XS.lcmp X31.here hx rfl (hb hby at_357) rfl ?_
          exact k
        by_cases hc358_72 : (dd.toInt64) < k0v
        ·
          have a73 : ∀ t, Steps p.tables e below (T31.setTop (mkF m 366 #[.val (.int p0), .val (.int p1), .val (.int p2), .val (.int p3), .val (.int p4), .val (.int cs), .val (.int wd), .val (.int sd), .val (.int (3 : Int32)), .val (.int dd), .val (.long a0v), .second, .val (.long a1v), .second, .val (.long aN), .second, .val (.long k0v), .second, .val (.long k1v), .second, .val (.long kN), .second, .val (.ref b16), .val (.ref rb31), s24, s25, s26, s27, .unset, .unset, .unset, .unset, .unset] [(.int (0 : Int32))])) t → Steps p.tables e below (s₁.setTop (mkF m 130 #[.val (.int p0), .val (.int p1), .val (.int p2), .val (.int p3), .val (.int p4), .val (.int cs), .val (.int wd), .val (.int sd), .val (.int (3 : Int32)), .val (.int dd), .val (.long a0v), .second, .val (.long a1v), .second, .val (.long a2v), .second, .val (.long k0v), .second, .val (.long k1v), .second, .val (.long k2v), .second, .unset, .unset, .unset, .unset, .unset, .unset, .unset, .unset, .unset, .unset, .unset] [])) t := by
            intro t k
            refine a71 t ?_
            show Steps p.tables e below (T31.setTop (mkF m 358 #[.val (.int p0), .val (.int p1), .val (.int p2), .val (.int p3), .val (.int p4), .val (.int cs), .val (.int wd), .val (.int sd), .val (.int (3 : Int32)), .val (.int dd), .val (.long a0v), .second, .val (.long a1v), .second, .val (.long aN), .second, .val (.long k0v), .second, .val (.long k1v), .second, .val (.long kN), .second, .val (.ref b16), .val (.ref rb31), s24, s25, s26, s27, .unset, .unset, .unset, .unset, .unset] [(.int (lcmpW k0v (dd.toInt64)))])) _
            refine XS.ifYes X31.here hx rfl (pc0 := 358) (pc' := 365) rfl (hb hby at_358) rfl ((if0 _ _).trans (tlt ((lw_gt k0v (dd.toInt64)).mpr hc358_72)).2.2.1) (by decide) (by decide) ?_
            refine XS.iconst X31.here hx rfl (hb hby at_365) ?_
            exact k
          exact ⟨(0 : Int32), Or.inr ⟨rfl, own_not_ok (Or.inr hc358_72)⟩, a73⟩
        ·
          have a74 : ∀ t, Steps p.tables e below (T31.setTop (mkF m 366 #[.val (.int p0), .val (.int p1), .val (.int p2), .val (.int p3), .val (.int p4), .val (.int cs), .val (.int wd), .val (.int sd), .val (.int (3 : Int32)), .val (.int dd), .val (.long a0v), .second, .val (.long a1v), .second, .val (.long aN), .second, .val (.long k0v), .second, .val (.long k1v), .second, .val (.long kN), .second, .val (.ref b16), .val (.ref rb31), s24, s25, s26, s27, .unset, .unset, .unset, .unset, .unset] [(.int (1 : Int32))])) t → Steps p.tables e below (s₁.setTop (mkF m 130 #[.val (.int p0), .val (.int p1), .val (.int p2), .val (.int p3), .val (.int p4), .val (.int cs), .val (.int wd), .val (.int sd), .val (.int (3 : Int32)), .val (.int dd), .val (.long a0v), .second, .val (.long a1v), .second, .val (.long a2v), .second, .val (.long k0v), .second, .val (.long k1v), .second, .val (.long k2v), .second, .unset, .unset, .unset, .unset, .unset, .unset, .unset, .unset, .unset, .unset, .unset] [])) t := by
            intro t k
            refine a71 t ?_
            show Steps p.tables e below (T31.setTop (mkF m 358 #[.val (.int p0), .val (.int p1), .val (.int p2), .val (.int p3), .val (.int p4), .val (.int cs), .val (.int wd), .val (.int sd), .val (.int (3 : Int32)), .val (.int dd), .val (.long a0v), .second, .val (.long a1v), .second, .val (.long aN), .second, .val (.long k0v), .second, .val (.long k1v), .second, .val (.long kN), .second, .val (.ref b16), .val (.ref rb31), s24, s25, s26, s27, .unset, .unset, .unset, .unset, .unset] [(.int (lcmpW k0v (dd.toInt64)))])) _
            refine XS.ifNo X31.here hx rfl (hb hby at_358) rfl ((if0 _ _).trans (flt (fun q => hc358_72 ((lw_gt k0v (dd.toInt64)).mp q))).2.2.1) ?_
            refine XS.iconst X31.here hx rfl (hb hby at_361) ?_
            refine XS.goto X31.here hx rfl (pc0 := 362) (pc' := 366) rfl (hb hby at_362) (by decide) (by decide) ?_
            exact k
          exact ⟨(1 : Int32), Or.inl ⟨rfl, own_is_ok hc349_69 hc358_72⟩, a74⟩
    have a76 : ∀ t, Steps p.tables e below (T31.setTop (mkF m 378 #[.val (.int p0), .val (.int p1), .val (.int p2), .val (.int p3), .val (.int p4), .val (.int cs), .val (.int wd), .val (.int sd), .val (.int (3 : Int32)), .val (.int dd), .val (.long a0v), .second, .val (.long a1v), .second, .val (.long aN), .second, .val (.long k0v), .second, .val (.long k1v), .second, .val (.long kN), .second, .val (.ref b16), .val (.ref rb31), .val (.int ok0), .unset, s26, s27, .unset, .unset, .unset, .unset, .unset] [(.int (lcmpW k1v (0 : Int64)))])) t → Steps p.tables e below (s₁.setTop (mkF m 130 #[.val (.int p0), .val (.int p1), .val (.int p2), .val (.int p3), .val (.int p4), .val (.int cs), .val (.int wd), .val (.int sd), .val (.int (3 : Int32)), .val (.int dd), .val (.long a0v), .second, .val (.long a1v), .second, .val (.long a2v), .second, .val (.long k0v), .second, .val (.long k1v), .second, .val (.long k2v), .second, .unset, .unset, .unset, .unset, .unset, .unset, .unset, .unset, .unset, .unset, .unset] [])) t := by
      intro t k
      refine a75 t ?_
      show Steps p.tables e below (T31.setTop (mkF m 366 #[.val (.int p0), .val (.int p1), .val (.int p2), .val (.int p3), .val (.int p4), .val (.int cs), .val (.int wd), .val (.int sd), .val (.int (3 : Int32)), .val (.int dd), .val (.long a0v), .second, .val (.long a1v), .second, .val (.long aN), .second, .val (.long k0v), .second, .val (.long k1v), .second, .val (.long kN), .second, .val (.ref b16), .val (.ref rb31), s24, s25, s26, s27, .unset, .unset, .unset, .unset, .unset] [(.int ok0)])) _
      refine XS.istore X31.here hx rfl (hb hby at_366) rfl (l' := #[.val (.int p0), .val (.int p1), .val (.int p2), .val (.int p3), .val (.int p4), .val (.int cs), .val (.int wd), .val (.int sd), .val (.int (3 : Int32)), .val (.int dd), .val (.long a0v), .second, .val (.long a1v), .second, .val (.long aN), .second, .val (.long k0v), .second, .val (.long k1v), .second, .val (.long kN), .second, .val (.ref b16), .val (.ref rb31), .val (.int ok0), .unset, s26, s27, .unset, .unset, .unset, .unset, .unset]) (by rcases JS24 with ⟨rfl, rfl⟩ | ⟨z, rfl, rfl⟩ <;> rfl) ?_
      refine XS.iload X31.here hx rfl (hb hby at_368) rfl ?_
      refine XS.iconst X31.here hx rfl (hb hby at_370) ?_
      refine XS.icmpNo X31.here hx rfl (hb hby at_371) rfl (flt (by decide)).1 ?_
      refine XS.lload X31.here hx rfl (hb hby at_374) rfl ?_
      refine XS.lconst X31.here hx rfl (hb hby at_376) ?_
      refine XS.lcmp X31.here hx rfl (hb hby at_377) rfl ?_
      exact k
    obtain ⟨ok1, JO1, a83⟩ : ∃ (ok1 : Int32), ((ok1 = 1 ∧ OwnOk k1v dd) ∨ (ok1 = 0 ∧ ¬ OwnOk k1v dd)) ∧ ∀ t, Steps p.tables e below (T31.setTop (mkF m 395 #[.val (.int p0), .val (.int p1), .val (.int p2), .val (.int p3), .val (.int p4), .val (.int cs), .val (.int wd), .val (.int sd), .val (.int (3 : Int32)), .val (.int dd), .val (.long a0v), .second, .val (.long a1v), .second, .val (.long aN), .second, .val (.long k0v), .second, .val (.long k1v), .second, .val (.long kN), .second, .val (.ref b16), .val (.ref rb31), .val (.int ok0), .unset, s26, s27, .unset, .unset, .unset, .unset, .unset] [(.int ok1)])) t → Steps p.tables e below (s₁.setTop (mkF m 130 #[.val (.int p0), .val (.int p1), .val (.int p2), .val (.int p3), .val (.int p4), .val (.int cs), .val (.int wd), .val (.int sd), .val (.int (3 : Int32)), .val (.int dd), .val (.long a0v), .second, .val (.long a1v), .second, .val (.long a2v), .second, .val (.long k0v), .second, .val (.long k1v), .second, .val (.long k2v), .second, .unset, .unset, .unset, .unset, .unset, .unset, .unset, .unset, .unset, .unset, .unset] [])) t := by
      by_cases hc378_77 : k1v < (0 : Int64)
      ·
        have a78 : ∀ t, Steps p.tables e below (T31.setTop (mkF m 395 #[.val (.int p0), .val (.int p1), .val (.int p2), .val (.int p3), .val (.int p4), .val (.int cs), .val (.int wd), .val (.int sd), .val (.int (3 : Int32)), .val (.int dd), .val (.long a0v), .second, .val (.long a1v), .second, .val (.long aN), .second, .val (.long k0v), .second, .val (.long k1v), .second, .val (.long kN), .second, .val (.ref b16), .val (.ref rb31), .val (.int ok0), .unset, s26, s27, .unset, .unset, .unset, .unset, .unset] [(.int (0 : Int32))])) t → Steps p.tables e below (s₁.setTop (mkF m 130 #[.val (.int p0), .val (.int p1), .val (.int p2), .val (.int p3), .val (.int p4), .val (.int cs), .val (.int wd), .val (.int sd), .val (.int (3 : Int32)), .val (.int dd), .val (.long a0v), .second, .val (.long a1v), .second, .val (.long a2v), .second, .val (.long k0v), .second, .val (.long k1v), .second, .val (.long k2v), .second, .unset, .unset, .unset, .unset, .unset, .unset, .unset, .unset, .unset, .unset, .unset] [])) t := by
          intro t k
          refine a76 t ?_
          show Steps p.tables e below (T31.setTop (mkF m 378 #[.val (.int p0), .val (.int p1), .val (.int p2), .val (.int p3), .val (.int p4), .val (.int cs), .val (.int wd), .val (.int sd), .val (.int (3 : Int32)), .val (.int dd), .val (.long a0v), .second, .val (.long a1v), .second, .val (.long aN), .second, .val (.long k0v), .second, .val (.long k1v), .second, .val (.long kN), .second, .val (.ref b16), .val (.ref rb31), .val (.int ok0), .unset, s26, s27, .unset, .unset, .unset, .unset, .unset] [(.int (lcmpW k1v (0 : Int64)))])) _
          refine XS.ifYes X31.here hx rfl (pc0 := 378) (pc' := 394) rfl (hb hby at_378) rfl ((if0 _ _).trans (tlt ((lw_lt k1v (0 : Int64)).mpr hc378_77)).1) (by decide) (by decide) ?_
          refine XS.iconst X31.here hx rfl (hb hby at_394) ?_
          exact k
        exact ⟨(0 : Int32), Or.inr ⟨rfl, own_not_ok (Or.inl hc378_77)⟩, a78⟩
      ·
        have a79 : ∀ t, Steps p.tables e below (T31.setTop (mkF m 387 #[.val (.int p0), .val (.int p1), .val (.int p2), .val (.int p3), .val (.int p4), .val (.int cs), .val (.int wd), .val (.int sd), .val (.int (3 : Int32)), .val (.int dd), .val (.long a0v), .second, .val (.long a1v), .second, .val (.long aN), .second, .val (.long k0v), .second, .val (.long k1v), .second, .val (.long kN), .second, .val (.ref b16), .val (.ref rb31), .val (.int ok0), .unset, s26, s27, .unset, .unset, .unset, .unset, .unset] [(.int (lcmpW k1v (dd.toInt64)))])) t → Steps p.tables e below (s₁.setTop (mkF m 130 #[.val (.int p0), .val (.int p1), .val (.int p2), .val (.int p3), .val (.int p4), .val (.int cs), .val (.int wd), .val (.int sd), .val (.int (3 : Int32)), .val (.int dd), .val (.long a0v), .second, .val (.long a1v), .second, .val (.long a2v), .second, .val (.long k0v), .second, .val (.long k1v), .second, .val (.long k2v), .second, .unset, .unset, .unset, .unset, .unset, .unset, .unset, .unset, .unset, .unset, .unset] [])) t := by
          intro t k
          refine a76 t ?_
          show Steps p.tables e below (T31.setTop (mkF m 378 #[.val (.int p0), .val (.int p1), .val (.int p2), .val (.int p3), .val (.int p4), .val (.int cs), .val (.int wd), .val (.int sd), .val (.int (3 : Int32)), .val (.int dd), .val (.long a0v), .second, .val (.long a1v), .second, .val (.long aN), .second, .val (.long k0v), .second, .val (.long k1v), .second, .val (.long kN), .second, .val (.ref b16), .val (.ref rb31), .val (.int ok0), .unset, s26, s27, .unset, .unset, .unset, .unset, .unset] [(.int (lcmpW k1v (0 : Int64)))])) _
          refine XS.ifNo X31.here hx rfl (hb hby at_378) rfl ((if0 _ _).trans (flt (fun q => hc378_77 ((lw_lt k1v (0 : Int64)).mp q))).1) ?_
          refine XS.lload X31.here hx rfl (hb hby at_381) rfl ?_
          refine XS.iload X31.here hx rfl (hb hby at_383) rfl ?_
          refine XS.i2l X31.here hx rfl (hb hby at_385) rfl ?_
          refine XS.lcmp X31.here hx rfl (hb hby at_386) rfl ?_
          exact k
        by_cases hc387_80 : (dd.toInt64) < k1v
        ·
          have a81 : ∀ t, Steps p.tables e below (T31.setTop (mkF m 395 #[.val (.int p0), .val (.int p1), .val (.int p2), .val (.int p3), .val (.int p4), .val (.int cs), .val (.int wd), .val (.int sd), .val (.int (3 : Int32)), .val (.int dd), .val (.long a0v), .second, .val (.long a1v), .second, .val (.long aN), .second, .val (.long k0v), .second, .val (.long k1v), .second, .val (.long kN), .second, .val (.ref b16), .val (.ref rb31), .val (.int ok0), .unset, s26, s27, .unset, .unset, .unset, .unset, .unset] [(.int (0 : Int32))])) t → Steps p.tables e below (s₁.setTop (mkF m 130 #[.val (.int p0), .val (.int p1), .val (.int p2), .val (.int p3), .val (.int p4), .val (.int cs), .val (.int wd), .val (.int sd), .val (.int (3 : Int32)), .val (.int dd), .val (.long a0v), .second, .val (.long a1v), .second, .val (.long a2v), .second, .val (.long k0v), .second, .val (.long k1v), .second, .val (.long k2v), .second, .unset, .unset, .unset, .unset, .unset, .unset, .unset, .unset, .unset, .unset, .unset] [])) t := by
            intro t k
            refine a79 t ?_
            show Steps p.tables e below (T31.setTop (mkF m 387 #[.val (.int p0), .val (.int p1), .val (.int p2), .val (.int p3), .val (.int p4), .val (.int cs), .val (.int wd), .val (.int sd), .val (.int (3 : Int32)), .val (.int dd), .val (.long a0v), .second, .val (.long a1v), .second, .val (.long aN), .second, .val (.long k0v), .second, .val (.long k1v), .second, .val (.long kN), .second, .val (.ref b16), .val (.ref rb31), .val (.int ok0), .unset, s26, s27, .unset, .unset, .unset, .unset, .unset] [(.int (lcmpW k1v (dd.toInt64)))])) _
            refine XS.ifYes X31.here hx rfl (pc0 := 387) (pc' := 394) rfl (hb hby at_387) rfl ((if0 _ _).trans (tlt ((lw_gt k1v (dd.toInt64)).mpr hc387_80)).2.2.1) (by decide) (by decide) ?_
            refine XS.iconst X31.here hx rfl (hb hby at_394) ?_
            exact k
          exact ⟨(0 : Int32), Or.inr ⟨rfl, own_not_ok (Or.inr hc387_80)⟩, a81⟩
        ·
          have a82 : ∀ t, Steps p.tables e below (T31.setTop (mkF m 395 #[.val (.int p0), .val (.int p1), .val (.int p2), .val (.int p3), .val (.int p4), .val (.int cs), .val (.int wd), .val (.int sd), .val (.int (3 : Int32)), .val (.int dd), .val (.long a0v), .second, .val (.long a1v), .second, .val (.long aN), .second, .val (.long k0v), .second, .val (.long k1v), .second, .val (.long kN), .second, .val (.ref b16), .val (.ref rb31), .val (.int ok0), .unset, s26, s27, .unset, .unset, .unset, .unset, .unset] [(.int (1 : Int32))])) t → Steps p.tables e below (s₁.setTop (mkF m 130 #[.val (.int p0), .val (.int p1), .val (.int p2), .val (.int p3), .val (.int p4), .val (.int cs), .val (.int wd), .val (.int sd), .val (.int (3 : Int32)), .val (.int dd), .val (.long a0v), .second, .val (.long a1v), .second, .val (.long a2v), .second, .val (.long k0v), .second, .val (.long k1v), .second, .val (.long k2v), .second, .unset, .unset, .unset, .unset, .unset, .unset, .unset, .unset, .unset, .unset, .unset] [])) t := by
            intro t k
            refine a79 t ?_
            show Steps p.tables e below (T31.setTop (mkF m 387 #[.val (.int p0), .val (.int p1), .val (.int p2), .val (.int p3), .val (.int p4), .val (.int cs), .val (.int wd), .val (.int sd), .val (.int (3 : Int32)), .val (.int dd), .val (.long a0v), .second, .val (.long a1v), .second, .val (.long aN), .second, .val (.long k0v), .second, .val (.long k1v), .second, .val (.long kN), .second, .val (.ref b16), .val (.ref rb31), .val (.int ok0), .unset, s26, s27, .unset, .unset, .unset, .unset, .unset] [(.int (lcmpW k1v (dd.toInt64)))])) _
            refine XS.ifNo X31.here hx rfl (hb hby at_387) rfl ((if0 _ _).trans (flt (fun q => hc387_80 ((lw_gt k1v (dd.toInt64)).mp q))).2.2.1) ?_
            refine XS.iconst X31.here hx rfl (hb hby at_390) ?_
            refine XS.goto X31.here hx rfl (pc0 := 391) (pc' := 395) rfl (hb hby at_391) (by decide) (by decide) ?_
            exact k
          exact ⟨(1 : Int32), Or.inl ⟨rfl, own_is_ok hc378_77 hc387_80⟩, a82⟩
    have a84 : ∀ t, Steps p.tables e below (T31.setTop (mkF m 407 #[.val (.int p0), .val (.int p1), .val (.int p2), .val (.int p3), .val (.int p4), .val (.int cs), .val (.int wd), .val (.int sd), .val (.int (3 : Int32)), .val (.int dd), .val (.long a0v), .second, .val (.long a1v), .second, .val (.long aN), .second, .val (.long k0v), .second, .val (.long k1v), .second, .val (.long kN), .second, .val (.ref b16), .val (.ref rb31), .val (.int ok0), .val (.int ok1), s26, s27, .unset, .unset, .unset, .unset, .unset] [(.int (lcmpW kN (0 : Int64)))])) t → Steps p.tables e below (s₁.setTop (mkF m 130 #[.val (.int p0), .val (.int p1), .val (.int p2), .val (.int p3), .val (.int p4), .val (.int cs), .val (.int wd), .val (.int sd), .val (.int (3 : Int32)), .val (.int dd), .val (.long a0v), .second, .val (.long a1v), .second, .val (.long a2v), .second, .val (.long k0v), .second, .val (.long k1v), .second, .val (.long k2v), .second, .unset, .unset, .unset, .unset, .unset, .unset, .unset, .unset, .unset, .unset, .unset] [])) t := by
      intro t k
      refine a83 t ?_
      show Steps p.tables e below (T31.setTop (mkF m 395 #[.val (.int p0), .val (.int p1), .val (.int p2), .val (.int p3), .val (.int p4), .val (.int cs), .val (.int wd), .val (.int sd), .val (.int (3 : Int32)), .val (.int dd), .val (.long a0v), .second, .val (.long a1v), .second, .val (.long aN), .second, .val (.long k0v), .second, .val (.long k1v), .second, .val (.long kN), .second, .val (.ref b16), .val (.ref rb31), .val (.int ok0), .unset, s26, s27, .unset, .unset, .unset, .unset, .unset] [(.int ok1)])) _
      refine XS.istore X31.here hx rfl (hb hby at_395) rfl (l' := #[.val (.int p0), .val (.int p1), .val (.int p2), .val (.int p3), .val (.int p4), .val (.int cs), .val (.int wd), .val (.int sd), .val (.int (3 : Int32)), .val (.int dd), .val (.long a0v), .second, .val (.long a1v), .second, .val (.long aN), .second, .val (.long k0v), .second, .val (.long k1v), .second, .val (.long kN), .second, .val (.ref b16), .val (.ref rb31), .val (.int ok0), .val (.int ok1), s26, s27, .unset, .unset, .unset, .unset, .unset]) rfl ?_
      refine XS.iload X31.here hx rfl (hb hby at_397) rfl ?_
      refine XS.iconst X31.here hx rfl (hb hby at_399) ?_
      refine XS.icmpNo X31.here hx rfl (hb hby at_400) rfl (flt (by decide)).1 ?_
      refine XS.lload X31.here hx rfl (hb hby at_403) rfl ?_
      refine XS.lconst X31.here hx rfl (hb hby at_405) ?_
      refine XS.lcmp X31.here hx rfl (hb hby at_406) rfl ?_
      exact k
    obtain ⟨ok2, JO2, a91⟩ : ∃ (ok2 : Int32), ((ok2 = 1 ∧ OwnOk kN dd) ∨ (ok2 = 0 ∧ ¬ OwnOk kN dd)) ∧ ∀ t, Steps p.tables e below (T31.setTop (mkF m 424 #[.val (.int p0), .val (.int p1), .val (.int p2), .val (.int p3), .val (.int p4), .val (.int cs), .val (.int wd), .val (.int sd), .val (.int (3 : Int32)), .val (.int dd), .val (.long a0v), .second, .val (.long a1v), .second, .val (.long aN), .second, .val (.long k0v), .second, .val (.long k1v), .second, .val (.long kN), .second, .val (.ref b16), .val (.ref rb31), .val (.int ok0), .val (.int ok1), s26, s27, .unset, .unset, .unset, .unset, .unset] [(.int ok2)])) t → Steps p.tables e below (s₁.setTop (mkF m 130 #[.val (.int p0), .val (.int p1), .val (.int p2), .val (.int p3), .val (.int p4), .val (.int cs), .val (.int wd), .val (.int sd), .val (.int (3 : Int32)), .val (.int dd), .val (.long a0v), .second, .val (.long a1v), .second, .val (.long a2v), .second, .val (.long k0v), .second, .val (.long k1v), .second, .val (.long k2v), .second, .unset, .unset, .unset, .unset, .unset, .unset, .unset, .unset, .unset, .unset, .unset] [])) t := by
      by_cases hc407_85 : kN < (0 : Int64)
      ·
        have a86 : ∀ t, Steps p.tables e below (T31.setTop (mkF m 424 #[.val (.int p0), .val (.int p1), .val (.int p2), .val (.int p3), .val (.int p4), .val (.int cs), .val (.int wd), .val (.int sd), .val (.int (3 : Int32)), .val (.int dd), .val (.long a0v), .second, .val (.long a1v), .second, .val (.long aN), .second, .val (.long k0v), .second, .val (.long k1v), .second, .val (.long kN), .second, .val (.ref b16), .val (.ref rb31), .val (.int ok0), .val (.int ok1), s26, s27, .unset, .unset, .unset, .unset, .unset] [(.int (0 : Int32))])) t → Steps p.tables e below (s₁.setTop (mkF m 130 #[.val (.int p0), .val (.int p1), .val (.int p2), .val (.int p3), .val (.int p4), .val (.int cs), .val (.int wd), .val (.int sd), .val (.int (3 : Int32)), .val (.int dd), .val (.long a0v), .second, .val (.long a1v), .second, .val (.long a2v), .second, .val (.long k0v), .second, .val (.long k1v), .second, .val (.long k2v), .second, .unset, .unset, .unset, .unset, .unset, .unset, .unset, .unset, .unset, .unset, .unset] [])) t := by
          intro t k
          refine a84 t ?_
          show Steps p.tables e below (T31.setTop (mkF m 407 #[.val (.int p0), .val (.int p1), .val (.int p2), .val (.int p3), .val (.int p4), .val (.int cs), .val (.int wd), .val (.int sd), .val (.int (3 : Int32)), .val (.int dd), .val (.long a0v), .second, .val (.long a1v), .second, .val (.long aN), .second, .val (.long k0v), .second, .val (.long k1v), .second, .val (.long kN), .second, .val (.ref b16), .val (.ref rb31), .val (.int ok0), .val (.int ok1), s26, s27, .unset, .unset, .unset, .unset, .unset] [(.int (lcmpW kN (0 : Int64)))])) _
          refine XS.ifYes X31.here hx rfl (pc0 := 407) (pc' := 423) rfl (hb hby at_407) rfl ((if0 _ _).trans (tlt ((lw_lt kN (0 : Int64)).mpr hc407_85)).1) (by decide) (by decide) ?_
          refine XS.iconst X31.here hx rfl (hb hby at_423) ?_
          exact k
        exact ⟨(0 : Int32), Or.inr ⟨rfl, own_not_ok (Or.inl hc407_85)⟩, a86⟩
      ·
        have a87 : ∀ t, Steps p.tables e below (T31.setTop (mkF m 416 #[.val (.int p0), .val (.int p1), .val (.int p2), .val (.int p3), .val (.int p4), .val (.int cs), .val (.int wd), .val (.int sd), .val (.int (3 : Int32)), .val (.int dd), .val (.long a0v), .second, .val (.long a1v), .second, .val (.long aN), .second, .val (.long k0v), .second, .val (.long k1v), .second, .val (.long kN), .second, .val (.ref b16), .val (.ref rb31), .val (.int ok0), .val (.int ok1), s26, s27, .unset, .unset, .unset, .unset, .unset] [(.int (lcmpW kN (dd.toInt64)))])) t → Steps p.tables e below (s₁.setTop (mkF m 130 #[.val (.int p0), .val (.int p1), .val (.int p2), .val (.int p3), .val (.int p4), .val (.int cs), .val (.int wd), .val (.int sd), .val (.int (3 : Int32)), .val (.int dd), .val (.long a0v), .second, .val (.long a1v), .second, .val (.long a2v), .second, .val (.long k0v), .second, .val (.long k1v), .second, .val (.long k2v), .second, .unset, .unset, .unset, .unset, .unset, .unset, .unset, .unset, .unset, .unset, .unset] [])) t := by
          intro t k
          refine a84 t ?_
          show Steps p.tables e below (T31.setTop (mkF m 407 #[.val (.int p0), .val (.int p1), .val (.int p2), .val (.int p3), .val (.int p4), .val (.int cs), .val (.int wd), .val (.int sd), .val (.int (3 : Int32)), .val (.int dd), .val (.long a0v), .second, .val (.long a1v), .second, .val (.long aN), .second, .val (.long k0v), .second, .val (.long k1v), .second, .val (.long kN), .second, .val (.ref b16), .val (.ref rb31), .val (.int ok0), .val (.int ok1), s26, s27, .unset, .unset, .unset, .unset, .unset] [(.int (lcmpW kN (0 : Int64)))])) _
          refine XS.ifNo X31.here hx rfl (hb hby at_407) rfl ((if0 _ _).trans (flt (fun q => hc407_85 ((lw_lt kN (0 : Int64)).mp q))).1) ?_
          refine XS.lload X31.here hx rfl (hb hby at_410) rfl ?_
          refine XS.iload X31.here hx rfl (hb hby at_412) rfl ?_
          refine XS.i2l X31.here hx rfl (hb hby at_414) rfl ?_
          refine XS.lcmp X31.here hx rfl (hb hby at_415) rfl ?_
          exact k
        by_cases hc416_88 : (dd.toInt64) < kN
        ·
          have a89 : ∀ t, Steps p.tables e below (T31.setTop (mkF m 424 #[.val (.int p0), .val (.int p1), .val (.int p2), .val (.int p3), .val (.int p4), .val (.int cs), .val (.int wd), .val (.int sd), .val (.int (3 : Int32)), .val (.int dd), .val (.long a0v), .second, .val (.long a1v), .second, .val (.long aN), .second, .val (.long k0v), .second, .val (.long k1v), .second, .val (.long kN), .second, .val (.ref b16), .val (.ref rb31), .val (.int ok0), .val (.int ok1), s26, s27, .unset, .unset, .unset, .unset, .unset] [(.int (0 : Int32))])) t → Steps p.tables e below (s₁.setTop (mkF m 130 #[.val (.int p0), .val (.int p1), .val (.int p2), .val (.int p3), .val (.int p4), .val (.int cs), .val (.int wd), .val (.int sd), .val (.int (3 : Int32)), .val (.int dd), .val (.long a0v), .second, .val (.long a1v), .second, .val (.long a2v), .second, .val (.long k0v), .second, .val (.long k1v), .second, .val (.long k2v), .second, .unset, .unset, .unset, .unset, .unset, .unset, .unset, .unset, .unset, .unset, .unset] [])) t := by
            intro t k
            refine a87 t ?_
            show Steps p.tables e below (T31.setTop (mkF m 416 #[.val (.int p0), .val (.int p1), .val (.int p2), .val (.int p3), .val (.int p4), .val (.int cs), .val (.int wd), .val (.int sd), .val (.int (3 : Int32)), .val (.int dd), .val (.long a0v), .second, .val (.long a1v), .second, .val (.long aN), .second, .val (.long k0v), .second, .val (.long k1v), .second, .val (.long kN), .second, .val (.ref b16), .val (.ref rb31), .val (.int ok0), .val (.int ok1), s26, s27, .unset, .unset, .unset, .unset, .unset] [(.int (lcmpW kN (dd.toInt64)))])) _
            refine XS.ifYes X31.here hx rfl (pc0 := 416) (pc' := 423) rfl (hb hby at_416) rfl ((if0 _ _).trans (tlt ((lw_gt kN (dd.toInt64)).mpr hc416_88)).2.2.1) (by decide) (by decide) ?_
            refine XS.iconst X31.here hx rfl (hb hby at_423) ?_
            exact k
          exact ⟨(0 : Int32), Or.inr ⟨rfl, own_not_ok (Or.inr hc416_88)⟩, a89⟩
        ·
          have a90 : ∀ t, Steps p.tables e below (T31.setTop (mkF m 424 #[.val (.int p0), .val (.int p1), .val (.int p2), .val (.int p3), .val (.int p4), .val (.int cs), .val (.int wd), .val (.int sd), .val (.int (3 : Int32)), .val (.int dd), .val (.long a0v), .second, .val (.long a1v), .second, .val (.long aN), .second, .val (.long k0v), .second, .val (.long k1v), .second, .val (.long kN), .second, .val (.ref b16), .val (.ref rb31), .val (.int ok0), .val (.int ok1), s26, s27, .unset, .unset, .unset, .unset, .unset] [(.int (1 : Int32))])) t → Steps p.tables e below (s₁.setTop (mkF m 130 #[.val (.int p0), .val (.int p1), .val (.int p2), .val (.int p3), .val (.int p4), .val (.int cs), .val (.int wd), .val (.int sd), .val (.int (3 : Int32)), .val (.int dd), .val (.long a0v), .second, .val (.long a1v), .second, .val (.long a2v), .second, .val (.long k0v), .second, .val (.long k1v), .second, .val (.long k2v), .second, .unset, .unset, .unset, .unset, .unset, .unset, .unset, .unset, .unset, .unset, .unset] [])) t := by
            intro t k
            refine a87 t ?_
            show Steps p.tables e below (T31.setTop (mkF m 416 #[.val (.int p0), .val (.int p1), .val (.int p2), .val (.int p3), .val (.int p4), .val (.int cs), .val (.int wd), .val (.int sd), .val (.int (3 : Int32)), .val (.int dd), .val (.long a0v), .second, .val (.long a1v), .second, .val (.long aN), .second, .val (.long k0v), .second, .val (.long k1v), .second, .val (.long kN), .second, .val (.ref b16), .val (.ref rb31), .val (.int ok0), .val (.int ok1), s26, s27, .unset, .unset, .unset, .unset, .unset] [(.int (lcmpW kN (dd.toInt64)))])) _
            refine XS.ifNo X31.here hx rfl (hb hby at_416) rfl ((if0 _ _).trans (flt (fun q => hc416_88 ((lw_gt kN (dd.toInt64)).mp q))).2.2.1) ?_
            refine XS.iconst X31.here hx rfl (hb hby at_419) ?_
            refine XS.goto X31.here hx rfl (pc0 := 420) (pc' := 424) rfl (hb hby at_420) (by decide) (by decide) ?_
            exact k
          exact ⟨(1 : Int32), Or.inl ⟨rfl, own_is_ok hc407_85 hc416_88⟩, a90⟩
    have a92 : ∀ t, Steps p.tables e below (T31.setTop (mkF m 520 #[.val (.int p0), .val (.int p1), .val (.int p2), .val (.int p3), .val (.int p4), .val (.int cs), .val (.int wd), .val (.int sd), .val (.int (3 : Int32)), .val (.int dd), .val (.long a0v), .second, .val (.long a1v), .second, .val (.long aN), .second, .val (.long k0v), .second, .val (.long k1v), .second, .val (.long kN), .second, .val (.ref b16), .val (.ref rb31), .val (.int ok0), .val (.int ok1), .val (.int ok2), .val (.long ((k0v + k1v) + kN)), .second, .val (.int (1 : Int32)), .unset, .unset, .unset] [(.ref rb31)])) t → Steps p.tables e below (s₁.setTop (mkF m 130 #[.val (.int p0), .val (.int p1), .val (.int p2), .val (.int p3), .val (.int p4), .val (.int cs), .val (.int wd), .val (.int sd), .val (.int (3 : Int32)), .val (.int dd), .val (.long a0v), .second, .val (.long a1v), .second, .val (.long a2v), .second, .val (.long k0v), .second, .val (.long k1v), .second, .val (.long k2v), .second, .unset, .unset, .unset, .unset, .unset, .unset, .unset, .unset, .unset, .unset, .unset] [])) t := by
      intro t k
      refine a91 t ?_
      show Steps p.tables e below (T31.setTop (mkF m 424 #[.val (.int p0), .val (.int p1), .val (.int p2), .val (.int p3), .val (.int p4), .val (.int cs), .val (.int wd), .val (.int sd), .val (.int (3 : Int32)), .val (.int dd), .val (.long a0v), .second, .val (.long a1v), .second, .val (.long aN), .second, .val (.long k0v), .second, .val (.long k1v), .second, .val (.long kN), .second, .val (.ref b16), .val (.ref rb31), .val (.int ok0), .val (.int ok1), s26, s27, .unset, .unset, .unset, .unset, .unset] [(.int ok2)])) _
      refine XS.istore X31.here hx rfl (hb hby at_424) rfl (l' := #[.val (.int p0), .val (.int p1), .val (.int p2), .val (.int p3), .val (.int p4), .val (.int cs), .val (.int wd), .val (.int sd), .val (.int (3 : Int32)), .val (.int dd), .val (.long a0v), .second, .val (.long a1v), .second, .val (.long aN), .second, .val (.long k0v), .second, .val (.long k1v), .second, .val (.long kN), .second, .val (.ref b16), .val (.ref rb31), .val (.int ok0), .val (.int ok1), .val (.int ok2), .unset, .unset, .unset, .unset, .unset, .unset]) (by rcases JS26 with ⟨rfl, rfl⟩ | ⟨z, rfl, rfl⟩ <;> rfl) ?_
      refine XS.iload X31.here hx rfl (hb hby at_426) rfl ?_
      refine XS.iconst X31.here hx rfl (hb hby at_428) ?_
      refine XS.icmpNo X31.here hx rfl (hb hby at_429) rfl (flt (by decide)).1 ?_
      refine XS.lload X31.here hx rfl (hb hby at_432) rfl ?_
      refine XS.goto X31.here hx rfl (pc0 := 434) (pc' := 438) rfl (hb hby at_434) (by decide) (by decide) ?_
      refine XS.iload X31.here hx rfl (hb hby at_438) rfl ?_
      refine XS.iconst X31.here hx rfl (hb hby at_440) ?_
      refine XS.icmpNo X31.here hx rfl (hb hby at_441) rfl (flt (by decide)).1 ?_
      refine XS.lload X31.here hx rfl (hb hby at_444) rfl ?_
      refine XS.goto X31.here hx rfl (pc0 := 446) (pc' := 450) rfl (hb hby at_446) (by decide) (by decide) ?_
      refine XS.ladd X31.here hx rfl (hb hby at_450) rfl ?_
      refine XS.iload X31.here hx rfl (hb hby at_451) rfl ?_
      refine XS.iconst X31.here hx rfl (hb hby at_453) ?_
      refine XS.icmpNo X31.here hx rfl (hb hby at_454) rfl (flt (by decide)).1 ?_
      refine XS.lload X31.here hx rfl (hb hby at_457) rfl ?_
      refine XS.goto X31.here hx rfl (pc0 := 459) (pc' := 463) rfl (hb hby at_459) (by decide) (by decide) ?_
      refine XS.ladd X31.here hx rfl (hb hby at_463) rfl ?_
      refine XS.lstore X31.here hx rfl (hb hby at_464) rfl (l' := #[.val (.int p0), .val (.int p1), .val (.int p2), .val (.int p3), .val (.int p4), .val (.int cs), .val (.int wd), .val (.int sd), .val (.int (3 : Int32)), .val (.int dd), .val (.long a0v), .second, .val (.long a1v), .second, .val (.long aN), .second, .val (.long k0v), .second, .val (.long k1v), .second, .val (.long kN), .second, .val (.ref b16), .val (.ref rb31), .val (.int ok0), .val (.int ok1), .val (.int ok2), .val (.long ((k0v + k1v) + kN)), .second, .unset, .unset, .unset, .unset]) rfl ?_
      refine XS.iload X31.here hx rfl (hb hby at_466) rfl ?_
      refine XS.ifNo X31.here hx rfl (hb hby at_468) rfl ((if0 _ _).trans (feq (own_one JO0 G31.1)).1) ?_
      refine XS.iload X31.here hx rfl (hb hby at_471) rfl ?_
      refine XS.ifNo X31.here hx rfl (hb hby at_473) rfl ((if0 _ _).trans (feq (own_one JO1 G31.2.1)).1) ?_
      refine XS.iload X31.here hx rfl (hb hby at_476) rfl ?_
      refine XS.ifNo X31.here hx rfl (hb hby at_478) rfl ((if0 _ _).trans (feq (own_one JO2 G31.2.2.1)).1) ?_
      refine XS.lload X31.here hx rfl (hb hby at_481) rfl ?_
      refine XS.iload X31.here hx rfl (hb hby at_483) rfl ?_
      refine XS.i2l X31.here hx rfl (hb hby at_485) rfl ?_
      refine XS.lcmp X31.here hx rfl (hb hby at_486) rfl ?_
      refine XS.ifNo X31.here hx rfl (hb hby at_487) rfl ((if0 _ _).trans (teq ((lw_eq ((k0v + k1v) + kN) (dd.toInt64)).mpr (Int64.toInt_inj.mp (by rw [c_i2l, own_s3 hdd G31.1 G31.2.1 G31.2.2.1]; exact G31.2.2.2)))).2) ?_
      refine XS.iconst X31.here hx rfl (hb hby at_490) ?_
      refine XS.goto X31.here hx rfl (pc0 := 491) (pc' := 495) rfl (hb hby at_491) (by decide) (by decide) ?_
      refine XS.istore X31.here hx rfl (hb hby at_495) rfl (l' := #[.val (.int p0), .val (.int p1), .val (.int p2), .val (.int p3), .val (.int p4), .val (.int cs), .val (.int wd), .val (.int sd), .val (.int (3 : Int32)), .val (.int dd), .val (.long a0v), .second, .val (.long a1v), .second, .val (.long aN), .second, .val (.long k0v), .second, .val (.long k1v), .second, .val (.long kN), .second, .val (.ref b16), .val (.ref rb31), .val (.int ok0), .val (.int ok1), .val (.int ok2), .val (.long ((k0v + k1v) + kN)), .second, .val (.int (1 : Int32)), .unset, .unset, .unset]) rfl ?_
      refine XS.iload X31.here hx rfl (hb hby at_497) rfl ?_
      refine XS.ifYes X31.here hx rfl (pc0 := 499) (pc' := 513) rfl (hb hby at_499) rfl ((if0 _ _).trans (feq (by decide)).2) (by decide) (by decide) ?_
      refine XS.aload X31.here hx rfl (hb hby at_513) rfl rfl ?_
      refine XS.ifnullNo X31.here hx rfl (hb hby at_515) rfl ?_
      refine XS.aload X31.here hx rfl (hb hby at_518) rfl rfl ?_
      exact k
    obtain ⟨cl93, Ar93, qc93, Sz93, Nn93, Hs93, Gs93⟩ := id AR31
    have a94 : ∀ t, Steps p.tables e below (T31.setTop (mkF m 537 #[.val (.int p0), .val (.int p1), .val (.int p2), .val (.int p3), .val (.int p4), .val (.int cs), .val (.int wd), .val (.int sd), .val (.int (3 : Int32)), .val (.int dd), .val (.long a0v), .second, .val (.long a1v), .second, .val (.long aN), .second, .val (.long k0v), .second, .val (.long k1v), .second, .val (.long kN), .second, .val (.ref b16), .val (.ref rb31), .val (.int ok0), .val (.int ok1), .val (.int ok2), .val (.long ((k0v + k1v) + kN)), .second, .val (.int (1 : Int32)), .unset, .unset, .unset] [(.int (0 : Int32)), (.ref rb31)])) t → Steps p.tables e below (s₁.setTop (mkF m 130 #[.val (.int p0), .val (.int p1), .val (.int p2), .val (.int p3), .val (.int p4), .val (.int cs), .val (.int wd), .val (.int sd), .val (.int (3 : Int32)), .val (.int dd), .val (.long a0v), .second, .val (.long a1v), .second, .val (.long a2v), .second, .val (.long k0v), .second, .val (.long k1v), .second, .val (.long k2v), .second, .unset, .unset, .unset, .unset, .unset, .unset, .unset, .unset, .unset, .unset, .unset] [])) t := by
      intro t k
      refine a92 t ?_
      show Steps p.tables e below (T31.setTop (mkF m 520 #[.val (.int p0), .val (.int p1), .val (.int p2), .val (.int p3), .val (.int p4), .val (.int cs), .val (.int wd), .val (.int sd), .val (.int (3 : Int32)), .val (.int dd), .val (.long a0v), .second, .val (.long a1v), .second, .val (.long aN), .second, .val (.long k0v), .second, .val (.long k1v), .second, .val (.long kN), .second, .val (.ref b16), .val (.ref rb31), .val (.int ok0), .val (.int ok1), .val (.int ok2), .val (.long ((k0v + k1v) + kN)), .second, .val (.int (1 : Int32)), .unset, .unset, .unset] [(.ref rb31)])) _
      refine X31.arraylength hx Ar93.1 (State.isArrayOf_alike hZ.alike Ar93.2.1) (g := (mkF m 520 #[.val (.int p0), .val (.int p1), .val (.int p2), .val (.int p3), .val (.int p4), .val (.int cs), .val (.int wd), .val (.int sd), .val (.int (3 : Int32)), .val (.int dd), .val (.long a0v), .second, .val (.long a1v), .second, .val (.long aN), .second, .val (.long k0v), .second, .val (.long k1v), .second, .val (.long kN), .second, .val (.ref b16), .val (.ref rb31), .val (.int ok0), .val (.int ok1), .val (.int ok2), .val (.long ((k0v + k1v) + kN)), .second, .val (.int (1 : Int32)), .unset, .unset, .unset] [(.ref rb31)])) rfl rfl (hb hby at_520) _ ?_
      rw [len_of Sz93 Nn93]
      refine XS.iload X31.here hx rfl (hb hby at_521) rfl ?_
      refine XS.icmpYes X31.here hx rfl (pc0 := 523) (pc' := 528) rfl (hb hby at_523) rfl (teq (by decide)).1 (by decide) (by decide) ?_
      refine XS.iload X31.here hx rfl (hb hby at_528) rfl ?_
      refine XS.iconst X31.here hx rfl (hb hby at_530) ?_
      refine XS.icmpNo X31.here hx rfl (hb hby at_531) rfl (flt (by decide)).1 ?_
      refine XS.aload X31.here hx rfl (hb hby at_534) rfl rfl ?_
      refine XS.iconst X31.here hx rfl (hb hby at_536) ?_
      exact k
    obtain ⟨cl95, Ar95, qc95, Sz95, Nn95, Hs95, Gs95⟩ := id AR31
    have hin95 : ¬ ((0 : Int32) < 0 ∨ cl95.slots.size ≤ ((0 : Int32)).toNatClampNeg) := inb_of Sz95 ⟨by decide, by decide⟩
    have hat95 := Hs95.at hin95 (v := (.double (FP.ddiv (FP.l2d k0v) (FP.i2d dd)))) rfl
    have a96 : ∀ t, Steps p.tables e below (T31.setTop (mkF m 565 #[.val (.int p0), .val (.int p1), .val (.int p2), .val (.int p3), .val (.int p4), .val (.int cs), .val (.int wd), .val (.int sd), .val (.int (3 : Int32)), .val (.int dd), .val (.long a0v), .second, .val (.long a1v), .second, .val (.long aN), .second, .val (.long k0v), .second, .val (.long k1v), .second, .val (.long kN), .second, .val (.ref b16), .val (.ref rb31), .val (.int ok0), .val (.int ok1), .val (.int ok2), .val (.long ((k0v + k1v) + kN)), .second, .val (.int (1 : Int32)), .val (.int (1 : Int32)), .unset, .unset] [(.int (1 : Int32)), (.ref rb31)])) t → Steps p.tables e below (s₁.setTop (mkF m 130 #[.val (.int p0), .val (.int p1), .val (.int p2), .val (.int p3), .val (.int p4), .val (.int cs), .val (.int wd), .val (.int sd), .val (.int (3 : Int32)), .val (.int dd), .val (.long a0v), .second, .val (.long a1v), .second, .val (.long a2v), .second, .val (.long k0v), .second, .val (.long k1v), .second, .val (.long k2v), .second, .unset, .unset, .unset, .unset, .unset, .unset, .unset, .unset, .unset, .unset, .unset] [])) t := by
      intro t k
      refine a94 t ?_
      show Steps p.tables e below (T31.setTop (mkF m 537 #[.val (.int p0), .val (.int p1), .val (.int p2), .val (.int p3), .val (.int p4), .val (.int cs), .val (.int wd), .val (.int sd), .val (.int (3 : Int32)), .val (.int dd), .val (.long a0v), .second, .val (.long a1v), .second, .val (.long aN), .second, .val (.long k0v), .second, .val (.long k1v), .second, .val (.long kN), .second, .val (.ref b16), .val (.ref rb31), .val (.int ok0), .val (.int ok1), .val (.int ok2), .val (.long ((k0v + k1v) + kN)), .second, .val (.int (1 : Int32)), .unset, .unset, .unset] [(.int (0 : Int32)), (.ref rb31)])) _
      refine X31.daload hx (j := (0 : Int32)) (v := (.double (FP.ddiv (FP.l2d k0v) (FP.i2d dd)))) Ar95.1 (State.isArrayOf_alike hZ.alike Ar95.2.1) Ar95.2.2 hin95 hat95 (g := (mkF m 537 #[.val (.int p0), .val (.int p1), .val (.int p2), .val (.int p3), .val (.int p4), .val (.int cs), .val (.int wd), .val (.int sd), .val (.int (3 : Int32)), .val (.int dd), .val (.long a0v), .second, .val (.long a1v), .second, .val (.long aN), .second, .val (.long k0v), .second, .val (.long k1v), .second, .val (.long kN), .second, .val (.ref b16), .val (.ref rb31), .val (.int ok0), .val (.int ok1), .val (.int ok2), .val (.long ((k0v + k1v) + kN)), .second, .val (.int (1 : Int32)), .unset, .unset, .unset] [(.int (0 : Int32)), (.ref rb31)])) rfl rfl (hb hby at_537) _ ?_
      refine XS.lload X31.here hx rfl (hb hby at_538) rfl ?_
      refine XS.l2dS X31.here hx rfl (hb hby at_540) rfl rfl ?_
      refine XS.iload X31.here hx rfl (hb hby at_541) rfl ?_
      refine XS.i2dS X31.here hx rfl (hb hby at_543) rfl rfl ?_
      refine XS.ddivS X31.here hx rfl (hb hby at_544) rfl (own_kd hdd) rfl ?_
      refine XS.dcmpS X31.here hx rfl (hb hby at_545) rfl rfl ?_
      refine XS.ifNo X31.here hx rfl (hb hby at_546) rfl ((if0 _ _).trans (teq (own_self hdd)).2) ?_
      refine XS.iconst X31.here hx rfl (hb hby at_549) ?_
      refine XS.goto X31.here hx rfl (pc0 := 550) (pc' := 554) rfl (hb hby at_550) (by decide) (by decide) ?_
      refine XS.istore X31.here hx rfl (hb hby at_554) rfl (l' := #[.val (.int p0), .val (.int p1), .val (.int p2), .val (.int p3), .val (.int p4), .val (.int cs), .val (.int wd), .val (.int sd), .val (.int (3 : Int32)), .val (.int dd), .val (.long a0v), .second, .val (.long a1v), .second, .val (.long aN), .second, .val (.long k0v), .second, .val (.long k1v), .second, .val (.long kN), .second, .val (.ref b16), .val (.ref rb31), .val (.int ok0), .val (.int ok1), .val (.int ok2), .val (.long ((k0v + k1v) + kN)), .second, .val (.int (1 : Int32)), .val (.int (1 : Int32)), .unset, .unset]) rfl ?_
      refine XS.iload X31.here hx rfl (hb hby at_556) rfl ?_
      refine XS.iconst X31.here hx rfl (hb hby at_558) ?_
      refine XS.icmpNo X31.here hx rfl (hb hby at_559) rfl (flt (by decide)).1 ?_
      refine XS.aload X31.here hx rfl (hb hby at_562) rfl rfl ?_
      refine XS.iconst X31.here hx rfl (hb hby at_564) ?_
      exact k
    obtain ⟨cl97, Ar97, qc97, Sz97, Nn97, Hs97, Gs97⟩ := id AR31
    have hin97 : ¬ ((1 : Int32) < 0 ∨ cl97.slots.size ≤ ((1 : Int32)).toNatClampNeg) := inb_of Sz97 ⟨by decide, by decide⟩
    have hat97 := Hs97.at hin97 (v := (.double (FP.ddiv (FP.l2d k1v) (FP.i2d dd)))) rfl
    have a98 : ∀ t, Steps p.tables e below (T31.setTop (mkF m 593 #[.val (.int p0), .val (.int p1), .val (.int p2), .val (.int p3), .val (.int p4), .val (.int cs), .val (.int wd), .val (.int sd), .val (.int (3 : Int32)), .val (.int dd), .val (.long a0v), .second, .val (.long a1v), .second, .val (.long aN), .second, .val (.long k0v), .second, .val (.long k1v), .second, .val (.long kN), .second, .val (.ref b16), .val (.ref rb31), .val (.int ok0), .val (.int ok1), .val (.int ok2), .val (.long ((k0v + k1v) + kN)), .second, .val (.int (1 : Int32)), .val (.int (1 : Int32)), .val (.int (1 : Int32)), .unset] [(.int (2 : Int32)), (.ref rb31)])) t → Steps p.tables e below (s₁.setTop (mkF m 130 #[.val (.int p0), .val (.int p1), .val (.int p2), .val (.int p3), .val (.int p4), .val (.int cs), .val (.int wd), .val (.int sd), .val (.int (3 : Int32)), .val (.int dd), .val (.long a0v), .second, .val (.long a1v), .second, .val (.long a2v), .second, .val (.long k0v), .second, .val (.long k1v), .second, .val (.long k2v), .second, .unset, .unset, .unset, .unset, .unset, .unset, .unset, .unset, .unset, .unset, .unset] [])) t := by
      intro t k
      refine a96 t ?_
      show Steps p.tables e below (T31.setTop (mkF m 565 #[.val (.int p0), .val (.int p1), .val (.int p2), .val (.int p3), .val (.int p4), .val (.int cs), .val (.int wd), .val (.int sd), .val (.int (3 : Int32)), .val (.int dd), .val (.long a0v), .second, .val (.long a1v), .second, .val (.long aN), .second, .val (.long k0v), .second, .val (.long k1v), .second, .val (.long kN), .second, .val (.ref b16), .val (.ref rb31), .val (.int ok0), .val (.int ok1), .val (.int ok2), .val (.long ((k0v + k1v) + kN)), .second, .val (.int (1 : Int32)), .val (.int (1 : Int32)), .unset, .unset] [(.int (1 : Int32)), (.ref rb31)])) _
      refine X31.daload hx (j := (1 : Int32)) (v := (.double (FP.ddiv (FP.l2d k1v) (FP.i2d dd)))) Ar97.1 (State.isArrayOf_alike hZ.alike Ar97.2.1) Ar97.2.2 hin97 hat97 (g := (mkF m 565 #[.val (.int p0), .val (.int p1), .val (.int p2), .val (.int p3), .val (.int p4), .val (.int cs), .val (.int wd), .val (.int sd), .val (.int (3 : Int32)), .val (.int dd), .val (.long a0v), .second, .val (.long a1v), .second, .val (.long aN), .second, .val (.long k0v), .second, .val (.long k1v), .second, .val (.long kN), .second, .val (.ref b16), .val (.ref rb31), .val (.int ok0), .val (.int ok1), .val (.int ok2), .val (.long ((k0v + k1v) + kN)), .second, .val (.int (1 : Int32)), .val (.int (1 : Int32)), .unset, .unset] [(.int (1 : Int32)), (.ref rb31)])) rfl rfl (hb hby at_565) _ ?_
      refine XS.lload X31.here hx rfl (hb hby at_566) rfl ?_
      refine XS.l2dS X31.here hx rfl (hb hby at_568) rfl rfl ?_
      refine XS.iload X31.here hx rfl (hb hby at_569) rfl ?_
      refine XS.i2dS X31.here hx rfl (hb hby at_571) rfl rfl ?_
      refine XS.ddivS X31.here hx rfl (hb hby at_572) rfl (own_kd hdd) rfl ?_
      refine XS.dcmpS X31.here hx rfl (hb hby at_573) rfl rfl ?_
      refine XS.ifNo X31.here hx rfl (hb hby at_574) rfl ((if0 _ _).trans (teq (own_self hdd)).2) ?_
      refine XS.iconst X31.here hx rfl (hb hby at_577) ?_
      refine XS.goto X31.here hx rfl (pc0 := 578) (pc' := 582) rfl (hb hby at_578) (by decide) (by decide) ?_
      refine XS.istore X31.here hx rfl (hb hby at_582) rfl (l' := #[.val (.int p0), .val (.int p1), .val (.int p2), .val (.int p3), .val (.int p4), .val (.int cs), .val (.int wd), .val (.int sd), .val (.int (3 : Int32)), .val (.int dd), .val (.long a0v), .second, .val (.long a1v), .second, .val (.long aN), .second, .val (.long k0v), .second, .val (.long k1v), .second, .val (.long kN), .second, .val (.ref b16), .val (.ref rb31), .val (.int ok0), .val (.int ok1), .val (.int ok2), .val (.long ((k0v + k1v) + kN)), .second, .val (.int (1 : Int32)), .val (.int (1 : Int32)), .val (.int (1 : Int32)), .unset]) rfl ?_
      refine XS.iload X31.here hx rfl (hb hby at_584) rfl ?_
      refine XS.iconst X31.here hx rfl (hb hby at_586) ?_
      refine XS.icmpNo X31.here hx rfl (hb hby at_587) rfl (flt (by decide)).1 ?_
      refine XS.aload X31.here hx rfl (hb hby at_590) rfl rfl ?_
      refine XS.iconst X31.here hx rfl (hb hby at_592) ?_
      exact k
    obtain ⟨cl99, Ar99, qc99, Sz99, Nn99, Hs99, Gs99⟩ := id AR31
    have hin99 : ¬ ((2 : Int32) < 0 ∨ cl99.slots.size ≤ ((2 : Int32)).toNatClampNeg) := inb_of Sz99 ⟨by decide, by decide⟩
    have hat99 := Hs99.at hin99 (v := (.double (FP.ddiv (FP.l2d kN) (FP.i2d dd)))) rfl
    have a100 : ∀ t, Steps p.tables e below (T31.setTop (mkF m 632 #[.val (.int p0), .val (.int p1), .val (.int p2), .val (.int p3), .val (.int p4), .val (.int cs), .val (.int wd), .val (.int sd), .val (.int (3 : Int32)), .val (.int dd), .val (.long a0v), .second, .val (.long a1v), .second, .val (.long aN), .second, .val (.long k0v), .second, .val (.long k1v), .second, .val (.long kN), .second, .val (.ref b16), .val (.ref rb31), .val (.int ok0), .val (.int ok1), .val (.int ok2), .val (.long ((k0v + k1v) + kN)), .second, .val (.int (1 : Int32)), .val (.int (1 : Int32)), .val (.int (1 : Int32)), .val (.int (1 : Int32))] [(.int (1 : Int32))])) t → Steps p.tables e below (s₁.setTop (mkF m 130 #[.val (.int p0), .val (.int p1), .val (.int p2), .val (.int p3), .val (.int p4), .val (.int cs), .val (.int wd), .val (.int sd), .val (.int (3 : Int32)), .val (.int dd), .val (.long a0v), .second, .val (.long a1v), .second, .val (.long a2v), .second, .val (.long k0v), .second, .val (.long k1v), .second, .val (.long k2v), .second, .unset, .unset, .unset, .unset, .unset, .unset, .unset, .unset, .unset, .unset, .unset] [])) t := by
      intro t k
      refine a98 t ?_
      show Steps p.tables e below (T31.setTop (mkF m 593 #[.val (.int p0), .val (.int p1), .val (.int p2), .val (.int p3), .val (.int p4), .val (.int cs), .val (.int wd), .val (.int sd), .val (.int (3 : Int32)), .val (.int dd), .val (.long a0v), .second, .val (.long a1v), .second, .val (.long aN), .second, .val (.long k0v), .second, .val (.long k1v), .second, .val (.long kN), .second, .val (.ref b16), .val (.ref rb31), .val (.int ok0), .val (.int ok1), .val (.int ok2), .val (.long ((k0v + k1v) + kN)), .second, .val (.int (1 : Int32)), .val (.int (1 : Int32)), .val (.int (1 : Int32)), .unset] [(.int (2 : Int32)), (.ref rb31)])) _
      refine X31.daload hx (j := (2 : Int32)) (v := (.double (FP.ddiv (FP.l2d kN) (FP.i2d dd)))) Ar99.1 (State.isArrayOf_alike hZ.alike Ar99.2.1) Ar99.2.2 hin99 hat99 (g := (mkF m 593 #[.val (.int p0), .val (.int p1), .val (.int p2), .val (.int p3), .val (.int p4), .val (.int cs), .val (.int wd), .val (.int sd), .val (.int (3 : Int32)), .val (.int dd), .val (.long a0v), .second, .val (.long a1v), .second, .val (.long aN), .second, .val (.long k0v), .second, .val (.long k1v), .second, .val (.long kN), .second, .val (.ref b16), .val (.ref rb31), .val (.int ok0), .val (.int ok1), .val (.int ok2), .val (.long ((k0v + k1v) + kN)), .second, .val (.int (1 : Int32)), .val (.int (1 : Int32)), .val (.int (1 : Int32)), .unset] [(.int (2 : Int32)), (.ref rb31)])) rfl rfl (hb hby at_593) _ ?_
      refine XS.lload X31.here hx rfl (hb hby at_594) rfl ?_
      refine XS.l2dS X31.here hx rfl (hb hby at_596) rfl rfl ?_
      refine XS.iload X31.here hx rfl (hb hby at_597) rfl ?_
      refine XS.i2dS X31.here hx rfl (hb hby at_599) rfl rfl ?_
      refine XS.ddivS X31.here hx rfl (hb hby at_600) rfl (own_kd hdd) rfl ?_
      refine XS.dcmpS X31.here hx rfl (hb hby at_601) rfl rfl ?_
      refine XS.ifNo X31.here hx rfl (hb hby at_602) rfl ((if0 _ _).trans (teq (own_self hdd)).2) ?_
      refine XS.iconst X31.here hx rfl (hb hby at_605) ?_
      refine XS.goto X31.here hx rfl (pc0 := 606) (pc' := 610) rfl (hb hby at_606) (by decide) (by decide) ?_
      refine XS.istore X31.here hx rfl (hb hby at_610) rfl (l' := #[.val (.int p0), .val (.int p1), .val (.int p2), .val (.int p3), .val (.int p4), .val (.int cs), .val (.int wd), .val (.int sd), .val (.int (3 : Int32)), .val (.int dd), .val (.long a0v), .second, .val (.long a1v), .second, .val (.long aN), .second, .val (.long k0v), .second, .val (.long k1v), .second, .val (.long kN), .second, .val (.ref b16), .val (.ref rb31), .val (.int ok0), .val (.int ok1), .val (.int ok2), .val (.long ((k0v + k1v) + kN)), .second, .val (.int (1 : Int32)), .val (.int (1 : Int32)), .val (.int (1 : Int32)), .val (.int (1 : Int32))]) rfl ?_
      refine XS.iload X31.here hx rfl (hb hby at_612) rfl ?_
      refine XS.ifNo X31.here hx rfl (hb hby at_614) rfl ((if0 _ _).trans (feq (by decide)).1) ?_
      refine XS.iload X31.here hx rfl (hb hby at_617) rfl ?_
      refine XS.ifNo X31.here hx rfl (hb hby at_619) rfl ((if0 _ _).trans (feq (by decide)).1) ?_
      refine XS.iload X31.here hx rfl (hb hby at_622) rfl ?_
      refine XS.ifNo X31.here hx rfl (hb hby at_624) rfl ((if0 _ _).trans (feq (by decide)).1) ?_
      refine XS.iconst X31.here hx rfl (hb hby at_627) ?_
      refine XS.goto X31.here hx rfl (pc0 := 628) (pc' := 632) rfl (hb hby at_628) (by decide) (by decide) ?_
      exact k
    obtain ⟨fs, hr, hrun, hended, hW, hsame⟩ := X31.leave (v := some (.int (1 : Int32))) (fun h => by rw [Bd.returns] at h; cases h)
    refine ⟨_, _, a100 _ ?_, hrun, hended, _, _, rfl, ?_, ⟨_, rfl⟩, hW, hsame.mono (by decide) (by decide)⟩
    · show Steps p.tables e below (T31.setTop (mkF m 632 #[.val (.int p0), .val (.int p1), .val (.int p2), .val (.int p3), .val (.int p4), .val (.int cs), .val (.int wd), .val (.int sd), .val (.int (3 : Int32)), .val (.int dd), .val (.long a0v), .second, .val (.long a1v), .second, .val (.long aN), .second, .val (.long k0v), .second, .val (.long k1v), .second, .val (.long kN), .second, .val (.ref b16), .val (.ref rb31), .val (.int ok0), .val (.int ok1), .val (.int ok2), .val (.long ((k0v + k1v) + kN)), .second, .val (.int (1 : Int32)), .val (.int (1 : Int32)), .val (.int (1 : Int32)), .val (.int (1 : Int32))] [(.int (1 : Int32))])) _
      exact retN X31 hx (t := .boolean) Bd.returns (by simp) (hb hby at_632) hr
    · show Q0 Z p0 p1 p2 p3 p4 h0 n0 _ T31.heap _
      exact ⟨rfl, N31⟩
set_option maxRecDepth 65536 in
set_option maxHeartbeats 40000000 in
theorem rm0 (l : Launch) (Z : State) (a0 : Array Value) (hw : ∀ d ∈ tables_1, d.before a0 Z = true) (ws : List Jvm.Cond) (p0 : Int32) (p1 : Int32) (p2 : Int32) (p3 : Int32) (p4 : Int32) (h0 : Heap) (n0 : Nat) (Z0 : n0 ≤ h0.size) :
    MetFree l x (head1 (Jvm.Cond.code x code maxLocals ret :: ws) room_1) (fun a U => a = #[(.int p0), (.int p1), (.int p2), (.int p3), (.int p4)] ∧ Z.Warmed39 U.vm ∧ U.heap = h0) (fun _ _ _ _ _ => True) (fun _ U o U' => ∃ v L, o = .returned v ∧ Q0 Z p0 p1 p2 p3 p4 h0 n0 v U'.heap L ∧ FrameEnd U o U' L room_1.cells room_1.slots) := by
  refine MetFree.of_bodySF (plainFor_of_name own_pn_com_example_tillerfront_tillerfront_engine_ReferencePointsNearestPinLaw) hisR ?_
  intro p e s m args below meth c s₁ Bd hml0 hP hK
  obtain ⟨rfl, hZ, hh⟩ := hP
  have hx := Bd.exec
  have hby := Bd.bytes
  have hml : c.maxLocals = 33 := hml0
  have hown : s.vm.findClass "com/example/tillerfront/tillerfront/engine/ReferencePointsNearestPinLaw" = some m.cls := findClass_of_methodNamed Bd.named
  have hnm := (name_of_methodNamed Bd.named Bd.method).1
  have X0 : Stand p l e room_1 s m #[(.int p0), (.int p1), (.int p2), (.int p3), (.int p4)] below meth c s₁ [] 0 0 := Stand.of_body Bd
  have e0 : s₁.heap = h0 := by rw [← hh, Bd.state]; rfl
  have N0 := Fr.nil n0
  have pre0 : ∀ t, Steps p.tables e below (s₁.setTop (mkF m 0 #[.val (.int p0), .val (.int p1), .val (.int p2), .val (.int p3), .val (.int p4), .unset, .unset, .unset, .unset, .unset, .unset, .unset, .unset, .unset, .unset, .unset, .unset, .unset, .unset, .unset, .unset, .unset, .unset, .unset, .unset, .unset, .unset, .unset, .unset, .unset, .unset, .unset, .unset] [])) t → Steps p.tables e below (s₁.setTop (entryFrame m #[(.int p0), (.int p1), (.int p2), (.int p3), (.int p4)] maxLocals)) t := fun t k => castTop (ef_rm0 m p0 p1 p2 p3 p4) k
  have a1 : ∀ t, Steps p.tables e below (s₁.setTop (mkF m 4 #[.val (.int p0), .val (.int p1), .val (.int p2), .val (.int p3), .val (.int p4), .unset, .unset, .unset, .unset, .unset, .unset, .unset, .unset, .unset, .unset, .unset, .unset, .unset, .unset, .unset, .unset, .unset, .unset, .unset, .unset, .unset, .unset, .unset, .unset, .unset, .unset, .unset, .unset] [(.int (p4 &&& (1 : Int32)))])) t → Steps p.tables e below (s₁.setTop (entryFrame m #[(.int p0), (.int p1), (.int p2), (.int p3), (.int p4)] maxLocals)) t := by
    intro t k
    refine pre0 t ?_
    show Steps p.tables e below (s₁.setTop (mkF m 0 #[.val (.int p0), .val (.int p1), .val (.int p2), .val (.int p3), .val (.int p4), .unset, .unset, .unset, .unset, .unset, .unset, .unset, .unset, .unset, .unset, .unset, .unset, .unset, .unset, .unset, .unset, .unset, .unset, .unset, .unset, .unset, .unset, .unset, .unset, .unset, .unset, .unset, .unset] [])) _
    refine XS.iload X0.here hx rfl (hb hby at_0) rfl ?_
    refine XS.iconst X0.here hx rfl (hb hby at_2) ?_
    refine XS.iand X0.here hx rfl (hb hby at_3) rfl ?_
    exact k
  obtain ⟨cs, J5, a5⟩ : ∃ (cs : Int32), (True) ∧ ∀ t, Steps p.tables e below (s₁.setTop (mkF m 12 #[.val (.int p0), .val (.int p1), .val (.int p2), .val (.int p3), .val (.int p4), .unset, .unset, .unset, .unset, .unset, .unset, .unset, .unset, .unset, .unset, .unset, .unset, .unset, .unset, .unset, .unset, .unset, .unset, .unset, .unset, .unset, .unset, .unset, .unset, .unset, .unset, .unset, .unset] [(.int cs)])) t → Steps p.tables e below (s₁.setTop (entryFrame m #[(.int p0), (.int p1), (.int p2), (.int p3), (.int p4)] maxLocals)) t := by
    by_cases hc4_2 : (p4 &&& (1 : Int32)) = (0 : Int32)
    ·
      have a3 : ∀ t, Steps p.tables e below (s₁.setTop (mkF m 12 #[.val (.int p0), .val (.int p1), .val (.int p2), .val (.int p3), .val (.int p4), .unset, .unset, .unset, .unset, .unset, .unset, .unset, .unset, .unset, .unset, .unset, .unset, .unset, .unset, .unset, .unset, .unset, .unset, .unset, .unset, .unset, .unset, .unset, .unset, .unset, .unset, .unset, .unset] [(.int (0 : Int32))])) t → Steps p.tables e below (s₁.setTop (entryFrame m #[(.int p0), (.int p1), (.int p2), (.int p3), (.int p4)] maxLocals)) t := by
        intro t k
        refine a1 t ?_
        show Steps p.tables e below (s₁.setTop (mkF m 4 #[.val (.int p0), .val (.int p1), .val (.int p2), .val (.int p3), .val (.int p4), .unset, .unset, .unset, .unset, .unset, .unset, .unset, .unset, .unset, .unset, .unset, .unset, .unset, .unset, .unset, .unset, .unset, .unset, .unset, .unset, .unset, .unset, .unset, .unset, .unset, .unset, .unset, .unset] [(.int (p4 &&& (1 : Int32)))])) _
        refine XS.ifYes X0.here hx rfl (pc0 := 4) (pc' := 11) rfl (hb hby at_4) rfl ((if0 _ _).trans (teq hc4_2).1) (by decide) (by decide) ?_
        refine XS.iconst X0.here hx rfl (hb hby at_11) ?_
        exact k
      exact ⟨(0 : Int32), trivial, a3⟩
    ·
      have a4 : ∀ t, Steps p.tables e below (s₁.setTop (mkF m 12 #[.val (.int p0), .val (.int p1), .val (.int p2), .val (.int p3), .val (.int p4), .unset, .unset, .unset, .unset, .unset, .unset, .unset, .unset, .unset, .unset, .unset, .unset, .unset, .unset, .unset, .unset, .unset, .unset, .unset, .unset, .unset, .unset, .unset, .unset, .unset, .unset, .unset, .unset] [(.int (1 : Int32))])) t → Steps p.tables e below (s₁.setTop (entryFrame m #[(.int p0), (.int p1), (.int p2), (.int p3), (.int p4)] maxLocals)) t := by
        intro t k
        refine a1 t ?_
        show Steps p.tables e below (s₁.setTop (mkF m 4 #[.val (.int p0), .val (.int p1), .val (.int p2), .val (.int p3), .val (.int p4), .unset, .unset, .unset, .unset, .unset, .unset, .unset, .unset, .unset, .unset, .unset, .unset, .unset, .unset, .unset, .unset, .unset, .unset, .unset, .unset, .unset, .unset, .unset, .unset, .unset, .unset, .unset, .unset] [(.int (p4 &&& (1 : Int32)))])) _
        refine XS.ifNo X0.here hx rfl (hb hby at_4) rfl ((if0 _ _).trans (feq hc4_2).1) ?_
        refine XS.iconst X0.here hx rfl (hb hby at_7) ?_
        refine XS.goto X0.here hx rfl (pc0 := 8) (pc' := 12) rfl (hb hby at_8) (by decide) (by decide) ?_
        exact k
      exact ⟨(1 : Int32), trivial, a4⟩
  have a6 : ∀ t, Steps p.tables e below (s₁.setTop (mkF m 18 #[.val (.int p0), .val (.int p1), .val (.int p2), .val (.int p3), .val (.int p4), .val (.int cs), .unset, .unset, .unset, .unset, .unset, .unset, .unset, .unset, .unset, .unset, .unset, .unset, .unset, .unset, .unset, .unset, .unset, .unset, .unset, .unset, .unset, .unset, .unset, .unset, .unset, .unset, .unset] [(.int (p4 &&& (2 : Int32)))])) t → Steps p.tables e below (s₁.setTop (entryFrame m #[(.int p0), (.int p1), (.int p2), (.int p3), (.int p4)] maxLocals)) t := by
    intro t k
    refine a5 t ?_
    show Steps p.tables e below (s₁.setTop (mkF m 12 #[.val (.int p0), .val (.int p1), .val (.int p2), .val (.int p3), .val (.int p4), .unset, .unset, .unset, .unset, .unset, .unset, .unset, .unset, .unset, .unset, .unset, .unset, .unset, .unset, .unset, .unset, .unset, .unset, .unset, .unset, .unset, .unset, .unset, .unset, .unset, .unset, .unset, .unset] [(.int cs)])) _
    refine XS.istore X0.here hx rfl (hb hby at_12) rfl (l' := #[.val (.int p0), .val (.int p1), .val (.int p2), .val (.int p3), .val (.int p4), .val (.int cs), .unset, .unset, .unset, .unset, .unset, .unset, .unset, .unset, .unset, .unset, .unset, .unset, .unset, .unset, .unset, .unset, .unset, .unset, .unset, .unset, .unset, .unset, .unset, .unset, .unset, .unset, .unset]) rfl ?_
    refine XS.iload X0.here hx rfl (hb hby at_14) rfl ?_
    refine XS.iconst X0.here hx rfl (hb hby at_16) ?_
    refine XS.iand X0.here hx rfl (hb hby at_17) rfl ?_
    exact k
  obtain ⟨wd, J10, a10⟩ : ∃ (wd : Int32), (True) ∧ ∀ t, Steps p.tables e below (s₁.setTop (mkF m 26 #[.val (.int p0), .val (.int p1), .val (.int p2), .val (.int p3), .val (.int p4), .val (.int cs), .unset, .unset, .unset, .unset, .unset, .unset, .unset, .unset, .unset, .unset, .unset, .unset, .unset, .unset, .unset, .unset, .unset, .unset, .unset, .unset, .unset, .unset, .unset, .unset, .unset, .unset, .unset] [(.int wd)])) t → Steps p.tables e below (s₁.setTop (entryFrame m #[(.int p0), (.int p1), (.int p2), (.int p3), (.int p4)] maxLocals)) t := by
    by_cases hc18_7 : (p4 &&& (2 : Int32)) = (0 : Int32)
    ·
      have a8 : ∀ t, Steps p.tables e below (s₁.setTop (mkF m 26 #[.val (.int p0), .val (.int p1), .val (.int p2), .val (.int p3), .val (.int p4), .val (.int cs), .unset, .unset, .unset, .unset, .unset, .unset, .unset, .unset, .unset, .unset, .unset, .unset, .unset, .unset, .unset, .unset, .unset, .unset, .unset, .unset, .unset, .unset, .unset, .unset, .unset, .unset, .unset] [(.int (0 : Int32))])) t → Steps p.tables e below (s₁.setTop (entryFrame m #[(.int p0), (.int p1), (.int p2), (.int p3), (.int p4)] maxLocals)) t := by
        intro t k
        refine a6 t ?_
        show Steps p.tables e below (s₁.setTop (mkF m 18 #[.val (.int p0), .val (.int p1), .val (.int p2), .val (.int p3), .val (.int p4), .val (.int cs), .unset, .unset, .unset, .unset, .unset, .unset, .unset, .unset, .unset, .unset, .unset, .unset, .unset, .unset, .unset, .unset, .unset, .unset, .unset, .unset, .unset, .unset, .unset, .unset, .unset, .unset, .unset] [(.int (p4 &&& (2 : Int32)))])) _
        refine XS.ifYes X0.here hx rfl (pc0 := 18) (pc' := 25) rfl (hb hby at_18) rfl ((if0 _ _).trans (teq hc18_7).1) (by decide) (by decide) ?_
        refine XS.iconst X0.here hx rfl (hb hby at_25) ?_
        exact k
      exact ⟨(0 : Int32), trivial, a8⟩
    ·
      have a9 : ∀ t, Steps p.tables e below (s₁.setTop (mkF m 26 #[.val (.int p0), .val (.int p1), .val (.int p2), .val (.int p3), .val (.int p4), .val (.int cs), .unset, .unset, .unset, .unset, .unset, .unset, .unset, .unset, .unset, .unset, .unset, .unset, .unset, .unset, .unset, .unset, .unset, .unset, .unset, .unset, .unset, .unset, .unset, .unset, .unset, .unset, .unset] [(.int (1 : Int32))])) t → Steps p.tables e below (s₁.setTop (entryFrame m #[(.int p0), (.int p1), (.int p2), (.int p3), (.int p4)] maxLocals)) t := by
        intro t k
        refine a6 t ?_
        show Steps p.tables e below (s₁.setTop (mkF m 18 #[.val (.int p0), .val (.int p1), .val (.int p2), .val (.int p3), .val (.int p4), .val (.int cs), .unset, .unset, .unset, .unset, .unset, .unset, .unset, .unset, .unset, .unset, .unset, .unset, .unset, .unset, .unset, .unset, .unset, .unset, .unset, .unset, .unset, .unset, .unset, .unset, .unset, .unset, .unset] [(.int (p4 &&& (2 : Int32)))])) _
        refine XS.ifNo X0.here hx rfl (hb hby at_18) rfl ((if0 _ _).trans (feq hc18_7).1) ?_
        refine XS.iconst X0.here hx rfl (hb hby at_21) ?_
        refine XS.goto X0.here hx rfl (pc0 := 22) (pc' := 26) rfl (hb hby at_22) (by decide) (by decide) ?_
        exact k
      exact ⟨(1 : Int32), trivial, a9⟩
  have a11 : ∀ t, Steps p.tables e below (s₁.setTop (mkF m 32 #[.val (.int p0), .val (.int p1), .val (.int p2), .val (.int p3), .val (.int p4), .val (.int cs), .val (.int wd), .unset, .unset, .unset, .unset, .unset, .unset, .unset, .unset, .unset, .unset, .unset, .unset, .unset, .unset, .unset, .unset, .unset, .unset, .unset, .unset, .unset, .unset, .unset, .unset, .unset, .unset] [(.int (p4 &&& (4 : Int32)))])) t → Steps p.tables e below (s₁.setTop (entryFrame m #[(.int p0), (.int p1), (.int p2), (.int p3), (.int p4)] maxLocals)) t := by
    intro t k
    refine a10 t ?_
    show Steps p.tables e below (s₁.setTop (mkF m 26 #[.val (.int p0), .val (.int p1), .val (.int p2), .val (.int p3), .val (.int p4), .val (.int cs), .unset, .unset, .unset, .unset, .unset, .unset, .unset, .unset, .unset, .unset, .unset, .unset, .unset, .unset, .unset, .unset, .unset, .unset, .unset, .unset, .unset, .unset, .unset, .unset, .unset, .unset, .unset] [(.int wd)])) _
    refine XS.istore X0.here hx rfl (hb hby at_26) rfl (l' := #[.val (.int p0), .val (.int p1), .val (.int p2), .val (.int p3), .val (.int p4), .val (.int cs), .val (.int wd), .unset, .unset, .unset, .unset, .unset, .unset, .unset, .unset, .unset, .unset, .unset, .unset, .unset, .unset, .unset, .unset, .unset, .unset, .unset, .unset, .unset, .unset, .unset, .unset, .unset, .unset]) rfl ?_
    refine XS.iload X0.here hx rfl (hb hby at_28) rfl ?_
    refine XS.iconst X0.here hx rfl (hb hby at_30) ?_
    refine XS.iand X0.here hx rfl (hb hby at_31) rfl ?_
    exact k
  obtain ⟨sd, J15, a15⟩ : ∃ (sd : Int32), (True) ∧ ∀ t, Steps p.tables e below (s₁.setTop (mkF m 40 #[.val (.int p0), .val (.int p1), .val (.int p2), .val (.int p3), .val (.int p4), .val (.int cs), .val (.int wd), .unset, .unset, .unset, .unset, .unset, .unset, .unset, .unset, .unset, .unset, .unset, .unset, .unset, .unset, .unset, .unset, .unset, .unset, .unset, .unset, .unset, .unset, .unset, .unset, .unset, .unset] [(.int sd)])) t → Steps p.tables e below (s₁.setTop (entryFrame m #[(.int p0), (.int p1), (.int p2), (.int p3), (.int p4)] maxLocals)) t := by
    by_cases hc32_12 : (p4 &&& (4 : Int32)) = (0 : Int32)
    ·
      have a13 : ∀ t, Steps p.tables e below (s₁.setTop (mkF m 40 #[.val (.int p0), .val (.int p1), .val (.int p2), .val (.int p3), .val (.int p4), .val (.int cs), .val (.int wd), .unset, .unset, .unset, .unset, .unset, .unset, .unset, .unset, .unset, .unset, .unset, .unset, .unset, .unset, .unset, .unset, .unset, .unset, .unset, .unset, .unset, .unset, .unset, .unset, .unset, .unset] [(.int (0 : Int32))])) t → Steps p.tables e below (s₁.setTop (entryFrame m #[(.int p0), (.int p1), (.int p2), (.int p3), (.int p4)] maxLocals)) t := by
        intro t k
        refine a11 t ?_
        show Steps p.tables e below (s₁.setTop (mkF m 32 #[.val (.int p0), .val (.int p1), .val (.int p2), .val (.int p3), .val (.int p4), .val (.int cs), .val (.int wd), .unset, .unset, .unset, .unset, .unset, .unset, .unset, .unset, .unset, .unset, .unset, .unset, .unset, .unset, .unset, .unset, .unset, .unset, .unset, .unset, .unset, .unset, .unset, .unset, .unset, .unset] [(.int (p4 &&& (4 : Int32)))])) _
        refine XS.ifYes X0.here hx rfl (pc0 := 32) (pc' := 39) rfl (hb hby at_32) rfl ((if0 _ _).trans (teq hc32_12).1) (by decide) (by decide) ?_
        refine XS.iconst X0.here hx rfl (hb hby at_39) ?_
        exact k
      exact ⟨(0 : Int32), trivial, a13⟩
    ·
      have a14 : ∀ t, Steps p.tables e below (s₁.setTop (mkF m 40 #[.val (.int p0), .val (.int p1), .val (.int p2), .val (.int p3), .val (.int p4), .val (.int cs), .val (.int wd), .unset, .unset, .unset, .unset, .unset, .unset, .unset, .unset, .unset, .unset, .unset, .unset, .unset, .unset, .unset, .unset, .unset, .unset, .unset, .unset, .unset, .unset, .unset, .unset, .unset, .unset] [(.int (1 : Int32))])) t → Steps p.tables e below (s₁.setTop (entryFrame m #[(.int p0), (.int p1), (.int p2), (.int p3), (.int p4)] maxLocals)) t := by
        intro t k
        refine a11 t ?_
        show Steps p.tables e below (s₁.setTop (mkF m 32 #[.val (.int p0), .val (.int p1), .val (.int p2), .val (.int p3), .val (.int p4), .val (.int cs), .val (.int wd), .unset, .unset, .unset, .unset, .unset, .unset, .unset, .unset, .unset, .unset, .unset, .unset, .unset, .unset, .unset, .unset, .unset, .unset, .unset, .unset, .unset, .unset, .unset, .unset, .unset, .unset] [(.int (p4 &&& (4 : Int32)))])) _
        refine XS.ifNo X0.here hx rfl (hb hby at_32) rfl ((if0 _ _).trans (feq hc32_12).1) ?_
        refine XS.iconst X0.here hx rfl (hb hby at_35) ?_
        refine XS.goto X0.here hx rfl (pc0 := 36) (pc' := 40) rfl (hb hby at_36) (by decide) (by decide) ?_
        exact k
      exact ⟨(1 : Int32), trivial, a14⟩
  have a16 : ∀ t, Steps p.tables e below (s₁.setTop (mkF m 48 #[.val (.int p0), .val (.int p1), .val (.int p2), .val (.int p3), .val (.int p4), .val (.int cs), .val (.int wd), .val (.int sd), .unset, .unset, .unset, .unset, .unset, .unset, .unset, .unset, .unset, .unset, .unset, .unset, .unset, .unset, .unset, .unset, .unset, .unset, .unset, .unset, .unset, .unset, .unset, .unset, .unset] [(.int ((p4 >>> ((3 : Int32) &&& 31)) &&& (3 : Int32)))])) t → Steps p.tables e below (s₁.setTop (entryFrame m #[(.int p0), (.int p1), (.int p2), (.int p3), (.int p4)] maxLocals)) t := by
    intro t k
    refine a15 t ?_
    show Steps p.tables e below (s₁.setTop (mkF m 40 #[.val (.int p0), .val (.int p1), .val (.int p2), .val (.int p3), .val (.int p4), .val (.int cs), .val (.int wd), .unset, .unset, .unset, .unset, .unset, .unset, .unset, .unset, .unset, .unset, .unset, .unset, .unset, .unset, .unset, .unset, .unset, .unset, .unset, .unset, .unset, .unset, .unset, .unset, .unset, .unset] [(.int sd)])) _
    refine XS.istore X0.here hx rfl (hb hby at_40) rfl (l' := #[.val (.int p0), .val (.int p1), .val (.int p2), .val (.int p3), .val (.int p4), .val (.int cs), .val (.int wd), .val (.int sd), .unset, .unset, .unset, .unset, .unset, .unset, .unset, .unset, .unset, .unset, .unset, .unset, .unset, .unset, .unset, .unset, .unset, .unset, .unset, .unset, .unset, .unset, .unset, .unset, .unset]) rfl ?_
    refine XS.iload X0.here hx rfl (hb hby at_42) rfl ?_
    refine XS.iconst X0.here hx rfl (hb hby at_44) ?_
    refine XS.ishr X0.here hx rfl (hb hby at_45) rfl ?_
    refine XS.iconst X0.here hx rfl (hb hby at_46) ?_
    refine XS.iand X0.here hx rfl (hb hby at_47) rfl ?_
    exact k
  obtain ⟨ln, h_ln⟩ : ∃ z : Int32, z = ((p4 >>> ((3 : Int32) &&& 31)) &&& (3 : Int32)) := ⟨_, rfl⟩
  rw [← h_ln] at a16
  have a17 : ∀ t, Steps p.tables e below (s₁.setTop (mkF m 52 #[.val (.int p0), .val (.int p1), .val (.int p2), .val (.int p3), .val (.int p4), .val (.int cs), .val (.int wd), .val (.int sd), .val (.int ln), .unset, .unset, .unset, .unset, .unset, .unset, .unset, .unset, .unset, .unset, .unset, .unset, .unset, .unset, .unset, .unset, .unset, .unset, .unset, .unset, .unset, .unset, .unset, .unset] [(.int sd)])) t → Steps p.tables e below (s₁.setTop (entryFrame m #[(.int p0), (.int p1), (.int p2), (.int p3), (.int p4)] maxLocals)) t := by
    intro t k
    refine a16 t ?_
    show Steps p.tables e below (s₁.setTop (mkF m 48 #[.val (.int p0), .val (.int p1), .val (.int p2), .val (.int p3), .val (.int p4), .val (.int cs), .val (.int wd), .val (.int sd), .unset, .unset, .unset, .unset, .unset, .unset, .unset, .unset, .unset, .unset, .unset, .unset, .unset, .unset, .unset, .unset, .unset, .unset, .unset, .unset, .unset, .unset, .unset, .unset, .unset] [(.int ln)])) _
    refine XS.istore X0.here hx rfl (hb hby at_48) rfl (l' := #[.val (.int p0), .val (.int p1), .val (.int p2), .val (.int p3), .val (.int p4), .val (.int cs), .val (.int wd), .val (.int sd), .val (.int ln), .unset, .unset, .unset, .unset, .unset, .unset, .unset, .unset, .unset, .unset, .unset, .unset, .unset, .unset, .unset, .unset, .unset, .unset, .unset, .unset, .unset, .unset, .unset, .unset]) rfl ?_
    refine XS.iload X0.here hx rfl (hb hby at_50) rfl ?_
    exact k
  obtain ⟨dd, hdd, a21⟩ : ∃ (dd : Int32), (OwnD dd) ∧ ∀ t, Steps p.tables e below (s₁.setTop (mkF m 71 #[.val (.int p0), .val (.int p1), .val (.int p2), .val (.int p3), .val (.int p4), .val (.int cs), .val (.int wd), .val (.int sd), .val (.int ln), .unset, .unset, .unset, .unset, .unset, .unset, .unset, .unset, .unset, .unset, .unset, .unset, .unset, .unset, .unset, .unset, .unset, .unset, .unset, .unset, .unset, .unset, .unset, .unset] [(.int dd)])) t → Steps p.tables e below (s₁.setTop (entryFrame m #[(.int p0), (.int p1), (.int p2), (.int p3), (.int p4)] maxLocals)) t := by
    by_cases hc52_18 : sd = (0 : Int32)
    ·
      have a19 : ∀ t, Steps p.tables e below (s₁.setTop (mkF m 71 #[.val (.int p0), .val (.int p1), .val (.int p2), .val (.int p3), .val (.int p4), .val (.int cs), .val (.int wd), .val (.int sd), .val (.int ln), .unset, .unset, .unset, .unset, .unset, .unset, .unset, .unset, .unset, .unset, .unset, .unset, .unset, .unset, .unset, .unset, .unset, .unset, .unset, .unset, .unset, .unset, .unset, .unset] [(.int ((1 : Int32) + (p3 &&& (1048575 : Int32))))])) t → Steps p.tables e below (s₁.setTop (entryFrame m #[(.int p0), (.int p1), (.int p2), (.int p3), (.int p4)] maxLocals)) t := by
        intro t k
        refine a17 t ?_
        show Steps p.tables e below (s₁.setTop (mkF m 52 #[.val (.int p0), .val (.int p1), .val (.int p2), .val (.int p3), .val (.int p4), .val (.int cs), .val (.int wd), .val (.int sd), .val (.int ln), .unset, .unset, .unset, .unset, .unset, .unset, .unset, .unset, .unset, .unset, .unset, .unset, .unset, .unset, .unset, .unset, .unset, .unset, .unset, .unset, .unset, .unset, .unset, .unset] [(.int sd)])) _
        refine XS.ifYes X0.here hx rfl (pc0 := 52) (pc' := 65) rfl (hb hby at_52) rfl ((if0 _ _).trans (teq hc52_18).1) (by decide) (by decide) ?_
        refine XS.iconst X0.here hx rfl (hb hby at_65) ?_
        refine XS.iloadN X0.here hx rfl (hb hby at_66) rfl ?_
        refine X0.ldcInt hx hown (mvT hZ (hw _ (List.mem_of_getElem? (i := 0) rfl))) (g := (mkF m 67 #[.val (.int p0), .val (.int p1), .val (.int p2), .val (.int p3), .val (.int p4), .val (.int cs), .val (.int wd), .val (.int sd), .val (.int ln), .unset, .unset, .unset, .unset, .unset, .unset, .unset, .unset, .unset, .unset, .unset, .unset, .unset, .unset, .unset, .unset, .unset, .unset, .unset, .unset, .unset, .unset, .unset, .unset] [(.int p3), (.int (1 : Int32))])) rfl (hb hby at_67) _ ?_
        refine XS.iand X0.here hx rfl (hb hby at_69) rfl ?_
        refine XS.iadd X0.here hx rfl (hb hby at_70) rfl ?_
        exact k
      exact ⟨((1 : Int32) + (p3 &&& (1048575 : Int32))), own_ind (Or.inr rfl), a19⟩
    ·
      have a20 : ∀ t, Steps p.tables e below (s₁.setTop (mkF m 71 #[.val (.int p0), .val (.int p1), .val (.int p2), .val (.int p3), .val (.int p4), .val (.int cs), .val (.int wd), .val (.int sd), .val (.int ln), .unset, .unset, .unset, .unset, .unset, .unset, .unset, .unset, .unset, .unset, .unset, .unset, .unset, .unset, .unset, .unset, .unset, .unset, .unset, .unset, .unset, .unset, .unset, .unset] [(.int ((1 : Int32) + (p3 &&& (1023 : Int32))))])) t → Steps p.tables e below (s₁.setTop (entryFrame m #[(.int p0), (.int p1), (.int p2), (.int p3), (.int p4)] maxLocals)) t := by
        intro t k
        refine a17 t ?_
        show Steps p.tables e below (s₁.setTop (mkF m 52 #[.val (.int p0), .val (.int p1), .val (.int p2), .val (.int p3), .val (.int p4), .val (.int cs), .val (.int wd), .val (.int sd), .val (.int ln), .unset, .unset, .unset, .unset, .unset, .unset, .unset, .unset, .unset, .unset, .unset, .unset, .unset, .unset, .unset, .unset, .unset, .unset, .unset, .unset, .unset, .unset, .unset, .unset] [(.int sd)])) _
        refine XS.ifNo X0.here hx rfl (hb hby at_52) rfl ((if0 _ _).trans (feq hc52_18).1) ?_
        refine XS.iconst X0.here hx rfl (hb hby at_55) ?_
        refine XS.iloadN X0.here hx rfl (hb hby at_56) rfl ?_
        refine XS.sipush X0.here hx rfl (hb hby at_57) ?_
        refine XS.iand X0.here hx rfl (hb hby at_60) rfl ?_
        refine XS.iadd X0.here hx rfl (hb hby at_61) rfl ?_
        refine XS.goto X0.here hx rfl (pc0 := 62) (pc' := 71) rfl (hb hby at_62) (by decide) (by decide) ?_
        exact k
      exact ⟨((1 : Int32) + (p3 &&& (1023 : Int32))), own_ind (Or.inl rfl), a20⟩
  have a22 : ∀ t, Steps p.tables e below (s₁.setTop (mkF m 76 #[.val (.int p0), .val (.int p1), .val (.int p2), .val (.int p3), .val (.int p4), .val (.int cs), .val (.int wd), .val (.int sd), .val (.int ln), .val (.int dd), .unset, .unset, .unset, .unset, .unset, .unset, .unset, .unset, .unset, .unset, .unset, .unset, .unset, .unset, .unset, .unset, .unset, .unset, .unset, .unset, .unset, .unset, .unset] [(.int wd), (.int p0)])) t → Steps p.tables e below (s₁.setTop (entryFrame m #[(.int p0), (.int p1), (.int p2), (.int p3), (.int p4)] maxLocals)) t := by
    intro t k
    refine a21 t ?_
    show Steps p.tables e below (s₁.setTop (mkF m 71 #[.val (.int p0), .val (.int p1), .val (.int p2), .val (.int p3), .val (.int p4), .val (.int cs), .val (.int wd), .val (.int sd), .val (.int ln), .unset, .unset, .unset, .unset, .unset, .unset, .unset, .unset, .unset, .unset, .unset, .unset, .unset, .unset, .unset, .unset, .unset, .unset, .unset, .unset, .unset, .unset, .unset, .unset] [(.int dd)])) _
    refine XS.istore X0.here hx rfl (hb hby at_71) rfl (l' := #[.val (.int p0), .val (.int p1), .val (.int p2), .val (.int p3), .val (.int p4), .val (.int cs), .val (.int wd), .val (.int sd), .val (.int ln), .val (.int dd), .unset, .unset, .unset, .unset, .unset, .unset, .unset, .unset, .unset, .unset, .unset, .unset, .unset, .unset, .unset, .unset, .unset, .unset, .unset, .unset, .unset, .unset, .unset]) rfl ?_
    refine XS.iloadN X0.here hx rfl (hb hby at_73) rfl ?_
    refine XS.iload X0.here hx rfl (hb hby at_74) rfl ?_
    exact k
  obtain ⟨_, _, ⟨T23, L23, k23, n23⟩, -, X23, ⟨Lc23, hQ23, l23, y23, z23⟩, st23⟩ := Jvm.LawKit.callS X0 hx (y := (⟨"com/example/tillerfront/tillerfront/engine/ReferencePointsNearestPinLaw", "pick", "(IZ)J"⟩ : MethodName)) hown (mvT hZ (hw _ (List.mem_of_getElem? (i := 1) rfl))) (mvT hZ (hw _ (List.mem_of_getElem? (i := 2) rfl))) (mvT hZ (hw _ (List.mem_of_getElem? (i := 3) rfl))) (mvT hZ (hw _ (List.mem_of_getElem? (i := 4) rfl))) (by decide) (backOf (W := 0) (rmP l Z a0 hw [] p0 wd h0 n0 Z0 ) hZ (hw _ (List.mem_of_getElem? (i := 4) rfl)) (hw _ (List.mem_of_getElem? (i := 3) rfl)) (by decide) (by decide)) (g := (mkF m 76 #[.val (.int p0), .val (.int p1), .val (.int p2), .val (.int p3), .val (.int p4), .val (.int cs), .val (.int wd), .val (.int sd), .val (.int ln), .val (.int dd), .unset, .unset, .unset, .unset, .unset, .unset, .unset, .unset, .unset, .unset, .unset, .unset, .unset, .unset, .unset, .unset, .unset, .unset, .unset, .unset, .unset, .unset, .unset] [(.int wd), (.int p0)])) rfl (by rw [hml]; rfl) (argsL := [(.int p0), (.int wd)]) (rest := []) (lenOf own_pd1 rfl) rfl (by show 2 * 0 + _ ≤ _; exact Nat.le_of_eq rfl) (hb hby at_76) (fun _ _ => ⟨rfl, e0, (by decide : 0 + 0 ≤ _), (by decide : 0 + 0 ≤ _)⟩)
  dsimp only [Pt.U, Pt.locs, Pt.cells, Pt.slots] at X23 l23 y23 z23 st23 hQ23
  subst l23 y23 z23
  obtain ⟨a0v, rfl, B_a0v, N23q, e23q⟩ := hQ23
  have N23 := Fr.app N0 N23q
  have a24 : ∀ t, Steps p.tables e below (T23.setTop (mkF m 79 #[.val (.int p0), .val (.int p1), .val (.int p2), .val (.int p3), .val (.int p4), .val (.int cs), .val (.int wd), .val (.int sd), .val (.int ln), .val (.int dd), .unset, .unset, .unset, .unset, .unset, .unset, .unset, .unset, .unset, .unset, .unset, .unset, .unset, .unset, .unset, .unset, .unset, .unset, .unset, .unset, .unset, .unset, .unset] [(.long a0v)])) t → Steps p.tables e below (s₁.setTop (entryFrame m #[(.int p0), (.int p1), (.int p2), (.int p3), (.int p4)] maxLocals)) t := fun t k => a22 t (st23 t k)
  have a25 : ∀ t, Steps p.tables e below (T23.setTop (mkF m 84 #[.val (.int p0), .val (.int p1), .val (.int p2), .val (.int p3), .val (.int p4), .val (.int cs), .val (.int wd), .val (.int sd), .val (.int ln), .val (.int dd), .val (.long a0v), .second, .unset, .unset, .unset, .unset, .unset, .unset, .unset, .unset, .unset, .unset, .unset, .unset, .unset, .unset, .unset, .unset, .unset, .unset, .unset, .unset, .unset] [(.int wd), (.int p1)])) t → Steps p.tables e below (s₁.setTop (entryFrame m #[(.int p0), (.int p1), (.int p2), (.int p3), (.int p4)] maxLocals)) t := by
    intro t k
    refine a24 t ?_
    show Steps p.tables e below (T23.setTop (mkF m 79 #[.val (.int p0), .val (.int p1), .val (.int p2), .val (.int p3), .val (.int p4), .val (.int cs), .val (.int wd), .val (.int sd), .val (.int ln), .val (.int dd), .unset, .unset, .unset, .unset, .unset, .unset, .unset, .unset, .unset, .unset, .unset, .unset, .unset, .unset, .unset, .unset, .unset, .unset, .unset, .unset, .unset, .unset, .unset] [(.long a0v)])) _
    refine XS.lstore X23.here hx rfl (hb hby at_79) rfl (l' := #[.val (.int p0), .val (.int p1), .val (.int p2), .val (.int p3), .val (.int p4), .val (.int cs), .val (.int wd), .val (.int sd), .val (.int ln), .val (.int dd), .val (.long a0v), .second, .unset, .unset, .unset, .unset, .unset, .unset, .unset, .unset, .unset, .unset, .unset, .unset, .unset, .unset, .unset, .unset, .unset, .unset, .unset, .unset, .unset]) rfl ?_
    refine XS.iloadN X23.here hx rfl (hb hby at_81) rfl ?_
    refine XS.iload X23.here hx rfl (hb hby at_82) rfl ?_
    exact k
  obtain ⟨_, _, ⟨T26, L26, k26, n26⟩, -, X26, ⟨Lc26, hQ26, l26, y26, z26⟩, st26⟩ := Jvm.LawKit.callS X23 hx (y := (⟨"com/example/tillerfront/tillerfront/engine/ReferencePointsNearestPinLaw", "pick", "(IZ)J"⟩ : MethodName)) hown (mvT hZ (hw _ (List.mem_of_getElem? (i := 1) rfl))) (mvT hZ (hw _ (List.mem_of_getElem? (i := 2) rfl))) (mvT hZ (hw _ (List.mem_of_getElem? (i := 3) rfl))) (mvT hZ (hw _ (List.mem_of_getElem? (i := 4) rfl))) (by decide) (backOf (W := 0) (rmP l Z a0 hw [] p1 wd h0 n0 Z0 ) hZ (hw _ (List.mem_of_getElem? (i := 4) rfl)) (hw _ (List.mem_of_getElem? (i := 3) rfl)) (by decide) (by decide)) (g := (mkF m 84 #[.val (.int p0), .val (.int p1), .val (.int p2), .val (.int p3), .val (.int p4), .val (.int cs), .val (.int wd), .val (.int sd), .val (.int ln), .val (.int dd), .val (.long a0v), .second, .unset, .unset, .unset, .unset, .unset, .unset, .unset, .unset, .unset, .unset, .unset, .unset, .unset, .unset, .unset, .unset, .unset, .unset, .unset, .unset, .unset] [(.int wd), (.int p1)])) rfl (by rw [hml]; rfl) (argsL := [(.int p1), (.int wd)]) (rest := []) (lenOf own_pd1 rfl) rfl (by show 2 * 0 + _ ≤ _; exact Nat.le_of_eq rfl) (hb hby at_84) (fun _ _ => ⟨rfl, e23q, (by decide : 0 + 0 ≤ _), (by decide : 0 + 0 ≤ _)⟩)
  dsimp only [Pt.U, Pt.locs, Pt.cells, Pt.slots] at X26 l26 y26 z26 st26 hQ26
  subst l26 y26 z26
  obtain ⟨a1v, rfl, B_a1v, N26q, e26q⟩ := hQ26
  have N26 := Fr.app N23 N26q
  have a27 : ∀ t, Steps p.tables e below (T26.setTop (mkF m 87 #[.val (.int p0), .val (.int p1), .val (.int p2), .val (.int p3), .val (.int p4), .val (.int cs), .val (.int wd), .val (.int sd), .val (.int ln), .val (.int dd), .val (.long a0v), .second, .unset, .unset, .unset, .unset, .unset, .unset, .unset, .unset, .unset, .unset, .unset, .unset, .unset, .unset, .unset, .unset, .unset, .unset, .unset, .unset, .unset] [(.long a1v)])) t → Steps p.tables e below (s₁.setTop (entryFrame m #[(.int p0), (.int p1), (.int p2), (.int p3), (.int p4)] maxLocals)) t := fun t k => a25 t (st26 t k)
  have a28 : ∀ t, Steps p.tables e below (T26.setTop (mkF m 92 #[.val (.int p0), .val (.int p1), .val (.int p2), .val (.int p3), .val (.int p4), .val (.int cs), .val (.int wd), .val (.int sd), .val (.int ln), .val (.int dd), .val (.long a0v), .second, .val (.long a1v), .second, .unset, .unset, .unset, .unset, .unset, .unset, .unset, .unset, .unset, .unset, .unset, .unset, .unset, .unset, .unset, .unset, .unset, .unset, .unset] [(.int wd), (.int p2)])) t → Steps p.tables e below (s₁.setTop (entryFrame m #[(.int p0), (.int p1), (.int p2), (.int p3), (.int p4)] maxLocals)) t := by
    intro t k
    refine a27 t ?_
    show Steps p.tables e below (T26.setTop (mkF m 87 #[.val (.int p0), .val (.int p1), .val (.int p2), .val (.int p3), .val (.int p4), .val (.int cs), .val (.int wd), .val (.int sd), .val (.int ln), .val (.int dd), .val (.long a0v), .second, .unset, .unset, .unset, .unset, .unset, .unset, .unset, .unset, .unset, .unset, .unset, .unset, .unset, .unset, .unset, .unset, .unset, .unset, .unset, .unset, .unset] [(.long a1v)])) _
    refine XS.lstore X26.here hx rfl (hb hby at_87) rfl (l' := #[.val (.int p0), .val (.int p1), .val (.int p2), .val (.int p3), .val (.int p4), .val (.int cs), .val (.int wd), .val (.int sd), .val (.int ln), .val (.int dd), .val (.long a0v), .second, .val (.long a1v), .second, .unset, .unset, .unset, .unset, .unset, .unset, .unset, .unset, .unset, .unset, .unset, .unset, .unset, .unset, .unset, .unset, .unset, .unset, .unset]) rfl ?_
    refine XS.iloadN X26.here hx rfl (hb hby at_89) rfl ?_
    refine XS.iload X26.here hx rfl (hb hby at_90) rfl ?_
    exact k
  obtain ⟨_, _, ⟨T29, L29, k29, n29⟩, -, X29, ⟨Lc29, hQ29, l29, y29, z29⟩, st29⟩ := Jvm.LawKit.callS X26 hx (y := (⟨"com/example/tillerfront/tillerfront/engine/ReferencePointsNearestPinLaw", "pick", "(IZ)J"⟩ : MethodName)) hown (mvT hZ (hw _ (List.mem_of_getElem? (i := 1) rfl))) (mvT hZ (hw _ (List.mem_of_getElem? (i := 2) rfl))) (mvT hZ (hw _ (List.mem_of_getElem? (i := 3) rfl))) (mvT hZ (hw _ (List.mem_of_getElem? (i := 4) rfl))) (by decide) (backOf (W := 0) (rmP l Z a0 hw [] p2 wd h0 n0 Z0 ) hZ (hw _ (List.mem_of_getElem? (i := 4) rfl)) (hw _ (List.mem_of_getElem? (i := 3) rfl)) (by decide) (by decide)) (g := (mkF m 92 #[.val (.int p0), .val (.int p1), .val (.int p2), .val (.int p3), .val (.int p4), .val (.int cs), .val (.int wd), .val (.int sd), .val (.int ln), .val (.int dd), .val (.long a0v), .second, .val (.long a1v), .second, .unset, .unset, .unset, .unset, .unset, .unset, .unset, .unset, .unset, .unset, .unset, .unset, .unset, .unset, .unset, .unset, .unset, .unset, .unset] [(.int wd), (.int p2)])) rfl (by rw [hml]; rfl) (argsL := [(.int p2), (.int wd)]) (rest := []) (lenOf own_pd1 rfl) rfl (by show 2 * 0 + _ ≤ _; exact Nat.le_of_eq rfl) (hb hby at_92) (fun _ _ => ⟨rfl, e26q, (by decide : 0 + 0 ≤ _), (by decide : 0 + 0 ≤ _)⟩)
  dsimp only [Pt.U, Pt.locs, Pt.cells, Pt.slots] at X29 l29 y29 z29 st29 hQ29
  subst l29 y29 z29
  obtain ⟨a2v, rfl, B_a2v, N29q, e29q⟩ := hQ29
  have N29 := Fr.app N26 N29q
  have a30 : ∀ t, Steps p.tables e below (T29.setTop (mkF m 95 #[.val (.int p0), .val (.int p1), .val (.int p2), .val (.int p3), .val (.int p4), .val (.int cs), .val (.int wd), .val (.int sd), .val (.int ln), .val (.int dd), .val (.long a0v), .second, .val (.long a1v), .second, .unset, .unset, .unset, .unset, .unset, .unset, .unset, .unset, .unset, .unset, .unset, .unset, .unset, .unset, .unset, .unset, .unset, .unset, .unset] [(.long a2v)])) t → Steps p.tables e below (s₁.setTop (entryFrame m #[(.int p0), (.int p1), (.int p2), (.int p3), (.int p4)] maxLocals)) t := fun t k => a28 t (st29 t k)
  have a31 : ∀ t, Steps p.tables e below (T29.setTop (mkF m 103 #[.val (.int p0), .val (.int p1), .val (.int p2), .val (.int p3), .val (.int p4), .val (.int cs), .val (.int wd), .val (.int sd), .val (.int ln), .val (.int dd), .val (.long a0v), .second, .val (.long a1v), .second, .val (.long a2v), .second, .unset, .unset, .unset, .unset, .unset, .unset, .unset, .unset, .unset, .unset, .unset, .unset, .unset, .unset, .unset, .unset, .unset] [(.long (a0v * (dd.toInt64)))])) t → Steps p.tables e below (s₁.setTop (entryFrame m #[(.int p0), (.int p1), (.int p2), (.int p3), (.int p4)] maxLocals)) t := by
    intro t k
    refine a30 t ?_
    show Steps p.tables e below (T29.setTop (mkF m 95 #[.val (.int p0), .val (.int p1), .val (.int p2), .val (.int p3), .val (.int p4), .val (.int cs), .val (.int wd), .val (.int sd), .val (.int ln), .val (.int dd), .val (.long a0v), .second, .val (.long a1v), .second, .unset, .unset, .unset, .unset, .unset, .unset, .unset, .unset, .unset, .unset, .unset, .unset, .unset, .unset, .unset, .unset, .unset, .unset, .unset] [(.long a2v)])) _
    refine XS.lstore X29.here hx rfl (hb hby at_95) rfl (l' := #[.val (.int p0), .val (.int p1), .val (.int p2), .val (.int p3), .val (.int p4), .val (.int cs), .val (.int wd), .val (.int sd), .val (.int ln), .val (.int dd), .val (.long a0v), .second, .val (.long a1v), .second, .val (.long a2v), .second, .unset, .unset, .unset, .unset, .unset, .unset, .unset, .unset, .unset, .unset, .unset, .unset, .unset, .unset, .unset, .unset, .unset]) rfl ?_
    refine XS.lload X29.here hx rfl (hb hby at_97) rfl ?_
    refine XS.iload X29.here hx rfl (hb hby at_99) rfl ?_
    refine XS.i2l X29.here hx rfl (hb hby at_101) rfl ?_
    refine XS.lmul X29.here hx rfl (hb hby at_102) rfl ?_
    exact k
  obtain ⟨_, _, ⟨T32, L32, k32, n32⟩, -, X32, ⟨Lc32, hQ32, l32, y32, z32⟩, st32⟩ := Jvm.LawKit.callS X29 hx (y := (⟨"com/example/tillerfront/tillerfront/engine/ReferencePointsNearestPinLaw", "rnd", "(J)J"⟩ : MethodName)) hown (mvT hZ (hw _ (List.mem_of_getElem? (i := 5) rfl))) (mvT hZ (hw _ (List.mem_of_getElem? (i := 6) rfl))) (mvT hZ (hw _ (List.mem_of_getElem? (i := 3) rfl))) (mvT hZ (hw _ (List.mem_of_getElem? (i := 7) rfl))) (by decide) (backOf (W := 0) (rmR l Z a0 hw [] (a0v * (dd.toInt64)) h0 n0 Z0 (by rw [own_lmul B_a0v hdd]; have := own_prod_bd B_a0v hdd; omega)) hZ (hw _ (List.mem_of_getElem? (i := 7) rfl)) (hw _ (List.mem_of_getElem? (i := 3) rfl)) (by decide) (by decide)) (g := (mkF m 103 #[.val (.int p0), .val (.int p1), .val (.int p2), .val (.int p3), .val (.int p4), .val (.int cs), .val (.int wd), .val (.int sd), .val (.int ln), .val (.int dd), .val (.long a0v), .second, .val (.long a1v), .second, .val (.long a2v), .second, .unset, .unset, .unset, .unset, .unset, .unset, .unset, .unset, .unset, .unset, .unset, .unset, .unset, .unset, .unset, .unset, .unset] [(.long (a0v * (dd.toInt64)))])) rfl (by rw [hml]; rfl) (argsL := [(.long (a0v * (dd.toInt64)))]) (rest := []) (lenOf own_pd2 rfl) rfl (by show 2 * 0 + _ ≤ _; exact Nat.le_of_eq rfl) (hb hby at_103) (fun _ _ => ⟨rfl, e29q, (by decide : 0 + 0 ≤ _), (by decide : 0 + 0 ≤ _)⟩)
  dsimp only [Pt.U, Pt.locs, Pt.cells, Pt.slots] at X32 l32 y32 z32 st32 hQ32
  subst l32 y32 z32
  obtain ⟨k0v, rfl, R_k0v, N32q, e32q⟩ := hQ32
  have N32 := Fr.app N29 N32q
  have J_k0v : OwnK a0v dd k0v := ⟨B_a0v, by rw [R_k0v, own_lmul B_a0v hdd]⟩
  have a33 : ∀ t, Steps p.tables e below (T32.setTop (mkF m 106 #[.val (.int p0), .val (.int p1), .val (.int p2), .val (.int p3), .val (.int p4), .val (.int cs), .val (.int wd), .val (.int sd), .val (.int ln), .val (.int dd), .val (.long a0v), .second, .val (.long a1v), .second, .val (.long a2v), .second, .unset, .unset, .unset, .unset, .unset, .unset, .unset, .unset, .unset, .unset, .unset, .unset, .unset, .unset, .unset, .unset, .unset] [(.long k0v)])) t → Steps p.tables e below (s₁.setTop (entryFrame m #[(.int p0), (.int p1), (.int p2), (.int p3), (.int p4)] maxLocals)) t := fun t k => a31 t (st32 t k)
  have a34 : ∀ t, Steps p.tables e below (T32.setTop (mkF m 114 #[.val (.int p0), .val (.int p1), .val (.int p2), .val (.int p3), .val (.int p4), .val (.int cs), .val (.int wd), .val (.int sd), .val (.int ln), .val (.int dd), .val (.long a0v), .second, .val (.long a1v), .second, .val (.long a2v), .second, .val (.long k0v), .second, .unset, .unset, .unset, .unset, .unset, .unset, .unset, .unset, .unset, .unset, .unset, .unset, .unset, .unset, .unset] [(.long (a1v * (dd.toInt64)))])) t → Steps p.tables e below (s₁.setTop (entryFrame m #[(.int p0), (.int p1), (.int p2), (.int p3), (.int p4)] maxLocals)) t := by
    intro t k
    refine a33 t ?_
    show Steps p.tables e below (T32.setTop (mkF m 106 #[.val (.int p0), .val (.int p1), .val (.int p2), .val (.int p3), .val (.int p4), .val (.int cs), .val (.int wd), .val (.int sd), .val (.int ln), .val (.int dd), .val (.long a0v), .second, .val (.long a1v), .second, .val (.long a2v), .second, .unset, .unset, .unset, .unset, .unset, .unset, .unset, .unset, .unset, .unset, .unset, .unset, .unset, .unset, .unset, .unset, .unset] [(.long k0v)])) _
    refine XS.lstore X32.here hx rfl (hb hby at_106) rfl (l' := #[.val (.int p0), .val (.int p1), .val (.int p2), .val (.int p3), .val (.int p4), .val (.int cs), .val (.int wd), .val (.int sd), .val (.int ln), .val (.int dd), .val (.long a0v), .second, .val (.long a1v), .second, .val (.long a2v), .second, .val (.long k0v), .second, .unset, .unset, .unset, .unset, .unset, .unset, .unset, .unset, .unset, .unset, .unset, .unset, .unset, .unset, .unset]) rfl ?_
    refine XS.lload X32.here hx rfl (hb hby at_108) rfl ?_
    refine XS.iload X32.here hx rfl (hb hby at_110) rfl ?_
    refine XS.i2l X32.here hx rfl (hb hby at_112) rfl ?_
    refine XS.lmul X32.here hx rfl (hb hby at_113) rfl ?_
    exact k
  obtain ⟨_, _, ⟨T35, L35, k35, n35⟩, -, X35, ⟨Lc35, hQ35, l35, y35, z35⟩, st35⟩ := Jvm.LawKit.callS X32 hx (y := (⟨"com/example/tillerfront/tillerfront/engine/ReferencePointsNearestPinLaw", "rnd", "(J)J"⟩ : MethodName)) hown (mvT hZ (hw _ (List.mem_of_getElem? (i := 5) rfl))) (mvT hZ (hw _ (List.mem_of_getElem? (i := 6) rfl))) (mvT hZ (hw _ (List.mem_of_getElem? (i := 3) rfl))) (mvT hZ (hw _ (List.mem_of_getElem? (i := 7) rfl))) (by decide) (backOf (W := 0) (rmR l Z a0 hw [] (a1v * (dd.toInt64)) h0 n0 Z0 (by rw [own_lmul B_a1v hdd]; have := own_prod_bd B_a1v hdd; omega)) hZ (hw _ (List.mem_of_getElem? (i := 7) rfl)) (hw _ (List.mem_of_getElem? (i := 3) rfl)) (by decide) (by decide)) (g := (mkF m 114 #[.val (.int p0), .val (.int p1), .val (.int p2), .val (.int p3), .val (.int p4), .val (.int cs), .val (.int wd), .val (.int sd), .val (.int ln), .val (.int dd), .val (.long a0v), .second, .val (.long a1v), .second, .val (.long a2v), .second, .val (.long k0v), .second, .unset, .unset, .unset, .unset, .unset, .unset, .unset, .unset, .unset, .unset, .unset, .unset, .unset, .unset, .unset] [(.long (a1v * (dd.toInt64)))])) rfl (by rw [hml]; rfl) (argsL := [(.long (a1v * (dd.toInt64)))]) (rest := []) (lenOf own_pd2 rfl) rfl (by show 2 * 0 + _ ≤ _; exact Nat.le_of_eq rfl) (hb hby at_114) (fun _ _ => ⟨rfl, e32q, (by decide : 0 + 0 ≤ _), (by decide : 0 + 0 ≤ _)⟩)
  dsimp only [Pt.U, Pt.locs, Pt.cells, Pt.slots] at X35 l35 y35 z35 st35 hQ35
  subst l35 y35 z35
  obtain ⟨k1v, rfl, R_k1v, N35q, e35q⟩ := hQ35
  have N35 := Fr.app N32 N35q
  have J_k1v : OwnK a1v dd k1v := ⟨B_a1v, by rw [R_k1v, own_lmul B_a1v hdd]⟩
  have a36 : ∀ t, Steps p.tables e below (T35.setTop (mkF m 117 #[.val (.int p0), .val (.int p1), .val (.int p2), .val (.int p3), .val (.int p4), .val (.int cs), .val (.int wd), .val (.int sd), .val (.int ln), .val (.int dd), .val (.long a0v), .second, .val (.long a1v), .second, .val (.long a2v), .second, .val (.long k0v), .second, .unset, .unset, .unset, .unset, .unset, .unset, .unset, .unset, .unset, .unset, .unset, .unset, .unset, .unset, .unset] [(.long k1v)])) t → Steps p.tables e below (s₁.setTop (entryFrame m #[(.int p0), (.int p1), (.int p2), (.int p3), (.int p4)] maxLocals)) t := fun t k => a34 t (st35 t k)
  have a37 : ∀ t, Steps p.tables e below (T35.setTop (mkF m 125 #[.val (.int p0), .val (.int p1), .val (.int p2), .val (.int p3), .val (.int p4), .val (.int cs), .val (.int wd), .val (.int sd), .val (.int ln), .val (.int dd), .val (.long a0v), .second, .val (.long a1v), .second, .val (.long a2v), .second, .val (.long k0v), .second, .val (.long k1v), .second, .unset, .unset, .unset, .unset, .unset, .unset, .unset, .unset, .unset, .unset, .unset, .unset, .unset] [(.long (a2v * (dd.toInt64)))])) t → Steps p.tables e below (s₁.setTop (entryFrame m #[(.int p0), (.int p1), (.int p2), (.int p3), (.int p4)] maxLocals)) t := by
    intro t k
    refine a36 t ?_
    show Steps p.tables e below (T35.setTop (mkF m 117 #[.val (.int p0), .val (.int p1), .val (.int p2), .val (.int p3), .val (.int p4), .val (.int cs), .val (.int wd), .val (.int sd), .val (.int ln), .val (.int dd), .val (.long a0v), .second, .val (.long a1v), .second, .val (.long a2v), .second, .val (.long k0v), .second, .unset, .unset, .unset, .unset, .unset, .unset, .unset, .unset, .unset, .unset, .unset, .unset, .unset, .unset, .unset] [(.long k1v)])) _
    refine XS.lstore X35.here hx rfl (hb hby at_117) rfl (l' := #[.val (.int p0), .val (.int p1), .val (.int p2), .val (.int p3), .val (.int p4), .val (.int cs), .val (.int wd), .val (.int sd), .val (.int ln), .val (.int dd), .val (.long a0v), .second, .val (.long a1v), .second, .val (.long a2v), .second, .val (.long k0v), .second, .val (.long k1v), .second, .unset, .unset, .unset, .unset, .unset, .unset, .unset, .unset, .unset, .unset, .unset, .unset, .unset]) rfl ?_
    refine XS.lload X35.here hx rfl (hb hby at_119) rfl ?_
    refine XS.iload X35.here hx rfl (hb hby at_121) rfl ?_
    refine XS.i2l X35.here hx rfl (hb hby at_123) rfl ?_
    refine XS.lmul X35.here hx rfl (hb hby at_124) rfl ?_
    exact k
  obtain ⟨_, _, ⟨T38, L38, k38, n38⟩, -, X38, ⟨Lc38, hQ38, l38, y38, z38⟩, st38⟩ := Jvm.LawKit.callS X35 hx (y := (⟨"com/example/tillerfront/tillerfront/engine/ReferencePointsNearestPinLaw", "rnd", "(J)J"⟩ : MethodName)) hown (mvT hZ (hw _ (List.mem_of_getElem? (i := 5) rfl))) (mvT hZ (hw _ (List.mem_of_getElem? (i := 6) rfl))) (mvT hZ (hw _ (List.mem_of_getElem? (i := 3) rfl))) (mvT hZ (hw _ (List.mem_of_getElem? (i := 7) rfl))) (by decide) (backOf (W := 0) (rmR l Z a0 hw [] (a2v * (dd.toInt64)) h0 n0 Z0 (by rw [own_lmul B_a2v hdd]; have := own_prod_bd B_a2v hdd; omega)) hZ (hw _ (List.mem_of_getElem? (i := 7) rfl)) (hw _ (List.mem_of_getElem? (i := 3) rfl)) (by decide) (by decide)) (g := (mkF m 125 #[.val (.int p0), .val (.int p1), .val (.int p2), .val (.int p3), .val (.int p4), .val (.int cs), .val (.int wd), .val (.int sd), .val (.int ln), .val (.int dd), .val (.long a0v), .second, .val (.long a1v), .second, .val (.long a2v), .second, .val (.long k0v), .second, .val (.long k1v), .second, .unset, .unset, .unset, .unset, .unset, .unset, .unset, .unset, .unset, .unset, .unset, .unset, .unset] [(.long (a2v * (dd.toInt64)))])) rfl (by rw [hml]; rfl) (argsL := [(.long (a2v * (dd.toInt64)))]) (rest := []) (lenOf own_pd2 rfl) rfl (by show 2 * 0 + _ ≤ _; exact Nat.le_of_eq rfl) (hb hby at_125) (fun _ _ => ⟨rfl, e35q, (by decide : 0 + 0 ≤ _), (by decide : 0 + 0 ≤ _)⟩)
  dsimp only [Pt.U, Pt.locs, Pt.cells, Pt.slots] at X38 l38 y38 z38 st38 hQ38
  subst l38 y38 z38
  obtain ⟨k2v, rfl, R_k2v, N38q, e38q⟩ := hQ38
  have N38 := Fr.app N35 N38q
  have J_k2v : OwnK a2v dd k2v := ⟨B_a2v, by rw [R_k2v, own_lmul B_a2v hdd]⟩
  have a39 : ∀ t, Steps p.tables e below (T38.setTop (mkF m 128 #[.val (.int p0), .val (.int p1), .val (.int p2), .val (.int p3), .val (.int p4), .val (.int cs), .val (.int wd), .val (.int sd), .val (.int ln), .val (.int dd), .val (.long a0v), .second, .val (.long a1v), .second, .val (.long a2v), .second, .val (.long k0v), .second, .val (.long k1v), .second, .unset, .unset, .unset, .unset, .unset, .unset, .unset, .unset, .unset, .unset, .unset, .unset, .unset] [(.long k2v)])) t → Steps p.tables e below (s₁.setTop (entryFrame m #[(.int p0), (.int p1), (.int p2), (.int p3), (.int p4)] maxLocals)) t := fun t k => a37 t (st38 t k)
  have a40 : ∀ t, Steps p.tables e below (T38.setTop (mkF m 130 #[.val (.int p0), .val (.int p1), .val (.int p2), .val (.int p3), .val (.int p4), .val (.int cs), .val (.int wd), .val (.int sd), .val (.int ln), .val (.int dd), .val (.long a0v), .second, .val (.long a1v), .second, .val (.long a2v), .second, .val (.long k0v), .second, .val (.long k1v), .second, .val (.long k2v), .second, .unset, .unset, .unset, .unset, .unset, .unset, .unset, .unset, .unset, .unset, .unset] [])) t → Steps p.tables e below (s₁.setTop (entryFrame m #[(.int p0), (.int p1), (.int p2), (.int p3), (.int p4)] maxLocals)) t := by
    intro t k
    refine a39 t ?_
    show Steps p.tables e below (T38.setTop (mkF m 128 #[.val (.int p0), .val (.int p1), .val (.int p2), .val (.int p3), .val (.int p4), .val (.int cs), .val (.int wd), .val (.int sd), .val (.int ln), .val (.int dd), .val (.long a0v), .second, .val (.long a1v), .second, .val (.long a2v), .second, .val (.long k0v), .second, .val (.long k1v), .second, .unset, .unset, .unset, .unset, .unset, .unset, .unset, .unset, .unset, .unset, .unset, .unset, .unset] [(.long k2v)])) _
    refine XS.lstore X38.here hx rfl (hb hby at_128) rfl (l' := #[.val (.int p0), .val (.int p1), .val (.int p2), .val (.int p3), .val (.int p4), .val (.int cs), .val (.int wd), .val (.int sd), .val (.int ln), .val (.int dd), .val (.long a0v), .second, .val (.long a1v), .second, .val (.long a2v), .second, .val (.long k0v), .second, .val (.long k1v), .second, .val (.long k2v), .second, .unset, .unset, .unset, .unset, .unset, .unset, .unset, .unset, .unset, .unset, .unset]) rfl ?_
    exact k
  rcases own_ln h_ln with el | el | el | el
  ·
    rw [el] at a40
    obtain ⟨s₂, o, k1, k2, k3, k4⟩ := tl0 l Z a0 hw ws p0 p1 p2 p3 p4 h0 n0 Z0 cs wd sd dd a0v a1v a2v k0v k1v k2v Bd hml hZ T38 _ X38 e38q N38 hdd B_a0v B_a1v B_a2v J_k0v J_k1v J_k2v
    exact ⟨s₂, o, a40 _ k1, k2, k3, k4⟩
  ·
    rw [el] at a40
    obtain ⟨s₂, o, k1, k2, k3, k4⟩ := tl1 l Z a0 hw ws p0 p1 p2 p3 p4 h0 n0 Z0 cs wd sd dd a0v a1v a2v k0v k1v k2v Bd hml hZ T38 _ X38 e38q N38 hdd B_a0v B_a1v B_a2v J_k0v J_k1v J_k2v
    exact ⟨s₂, o, a40 _ k1, k2, k3, k4⟩
  ·
    rw [el] at a40
    obtain ⟨s₂, o, k1, k2, k3, k4⟩ := tl2 l Z a0 hw ws p0 p1 p2 p3 p4 h0 n0 Z0 cs wd sd dd a0v a1v a2v k0v k1v k2v Bd hml hZ T38 _ X38 e38q N38 hdd B_a0v B_a1v B_a2v J_k0v J_k1v J_k2v
    exact ⟨s₂, o, a40 _ k1, k2, k3, k4⟩
  ·
    rw [el] at a40
    obtain ⟨s₂, o, k1, k2, k3, k4⟩ := tl3 l Z a0 hw ws p0 p1 p2 p3 p4 h0 n0 Z0 cs wd sd dd a0v a1v a2v k0v k1v k2v Bd hml hZ T38 _ X38 e38q N38 hdd B_a0v B_a1v B_a2v J_k0v J_k1v J_k2v
    exact ⟨s₂, o, a40 _ k1, k2, k3, k4⟩
set_option maxRecDepth 65536 in
set_option maxHeartbeats 40000000 in
theorem comes_1 {Post : Tables → Env → Array Value → State → Outcome → State → Prop} (hpost : ∀ tb e args s v u, (limb_1_1.after args s (.returned v) u = true ∧ limb_1_2.after args s (.returned v) u = true ∧ True) → FrameEnd s (.returned v) u (Jvm.fieldLocs frame_1_writes args s ++ Jvm.arrayLocs frame_1_arrays args s ++ Jvm.staticLocs frame_1_statics s) 16 128 → Post tb e args s (.returned v) u) :
    ArmFor flags0 classFile x code maxLocals ret World_1 tables_1 room_1 Calls_1 rest_1 Pre_1 Post := by
  intro l hfl _ _ p e ha hc hk s m args below hf hA hF happ hP
  obtain ⟨hcalls, hrest, hpre⟩ := hP
  obtain ⟨-, -, -, hnamed, -, -, -, hat⟩ := (Spec.applies_iff hf).mp happ
  obtain ⟨hg, hn⟩ := and_e (Cond.before_iff.mp (show (Jvm.Cond.and given_1 narrow_1).before args s = true from hpre))
  obtain ⟨g1, g2⟩ := and_e hg
  obtain ⟨g3, g4⟩ := and_e g2
  obtain ⟨g5, g6⟩ := and_e g4
  obtain ⟨g7, g8⟩ := and_e g6
  obtain ⟨g9, g10⟩ := and_e g8
  obtain ⟨w0, w1, w2, w3, w4, rfl⟩ : ∃ w0 w1 w2 w3 w4 : Value, args = #[w0, w1, w2, w3, w4] := by
    have hs : args.size = 5 := by simpa [Cond.value, given_1] using g1
    obtain ⟨L⟩ := args
    match L, hs with
    | [w0, w1, w2, w3, w4], _ => exact ⟨w0, w1, w2, w3, w4, rfl⟩
  have hw := fun d (hd : d ∈ tables_1) => atoms_spec (ws := Jvm.Cond.code x code maxLocals ret :: tables_1) hat d (List.mem_cons_of_mem _ hd)
  have hfit : Fit s := fun {y c} hc i hi => by
    obtain ⟨ha, rfl⟩ := Array.getElem?_eq_some_iff.mp hc
    have q := List.all_eq_true.mp ((Array.all_eq_true_iff_forall_mem.mp hF) _ (Array.getElem_mem ha)) i (List.mem_range.mpr hi)
    simpa [Array.getElem?_eq_getElem hi] using q
  obtain ⟨i0, ei0⟩ := is_v g3
  obtain rfl : w0 = (.int i0) := Option.some.inj ei0
  obtain ⟨i1, ei1⟩ := is_v g5
  obtain rfl : w1 = (.int i1) := Option.some.inj ei1
  obtain ⟨i2, ei2⟩ := is_v g7
  obtain rfl : w2 = (.int i2) := Option.some.inj ei2
  obtain ⟨i3, ei3⟩ := is_v g9
  obtain rfl : w3 = (.int i3) := Option.some.inj ei3
  obtain ⟨i4, ei4⟩ := is_v g10
  obtain rfl : w4 = (.int i4) := Option.some.inj ei4
  obtain ⟨n, o, h1, h2, h3, _, L, rfl, ⟨rfl, N⟩, hq⟩ := rm0 l s _ hw tables_1 i0 i1 i2 i3 i4  s.heap s.heap.size (Nat.le_refl _)  p e ha hc hk s m _ below hf ((Spec.applies_iff_loose hf).mp happ).1 ⟨rfl, State.Warmed39.refl s, rfl⟩ trivial
  refine ⟨n, _, h1, h2, h3, hpost _ _ _ _ _ _ ⟨Cond.after_iff.mpr rfl, Cond.after_iff.mpr (eq_i res_at (Term.int_eval (1)) rfl), trivial⟩ ⟨hq.1, hq.2.1, (hq.2.2.sift fun y hy => Or.inr (N y hy)).mono (by decide) (by decide)⟩⟩
theorem main_1_1 : Claimed_1_1 := comes_1 fun _ _ _ _ _ _ h hF => ⟨h.1, hF⟩
theorem main_1_2 : Claimed_1_2 := comes_1 fun _ _ _ _ _ _ h hF => ⟨h.2.1, hF⟩
end Jvm.Pilot.@@N@@
namespace Jvm.Pilot.@@N@@
open Jvm Jvm.ClassFile Sem Op Lib Jvm.Free Jvm.Stand Jvm.Pilot.@@N@@.Jvm.D
/-! MADE BY PROGRAM (witnessworld.py) out of the Statement's table words and the real class files: 17 classes; the members and pool entries that the words name. The judged class is class 1, her method 1. -/
namespace start1
open Jvm.ClassFile
def u (s : String) : CpInfo := .utf8 (stringToUtf16 s)
/-- a pool by its gaps: so many unusable entries, then the entry; so many at the end -/
def gap : Nat → List CpInfo → List CpInfo
  | 0, r => r
  | n + 1, r => .unusable :: gap n r
def poolList (es : List (Nat × CpInfo)) (last : Nat) : List CpInfo := es.foldr (fun e r => gap e.1 (e.2 :: r)) (gap last [])
def pool (es : List (Nat × CpInfo)) (last : Nat) : Array CpInfo := ⟨poolList es last⟩
def fileOf (pool : Array CpInfo) (this : Nat) (attrs : Array Attribute := #[]) (ms : Array MethodInfo := #[]) (fl : Nat := 33) (sup : Nat := 0) (ifs : Array Nat := #[]) (fds : Array FieldInfo := #[]) : ClassFile where
  minorVersion := 0
  majorVersion := 65
  constantPool := pool
  accessFlags := fl
  thisClass := this
  superClass := sup
  interfaces := ifs
  fields := fds
  methods := ms
  attributes := attrs
def plain (name : String) (sup : Option ClassId) : Class where
  name := name
  kind := .ordinary
  loader := none
  accessFlags := 33
  super := sup
  interfaces := #[]
  cf := none
  fields := #[]
  methods := #[]
  instanceTypes := #[]
  staticTypes := #[]
  resolved := #[]
  callSites := []
  init := .initialized
  statics := none
  mirror := none

def pool0 : Array CpInfo := pool [(5, u "<init>"), (0, u "()V"), (1, .class_ 10), (1, u "java/lang/Object")] 113

def k0m0 : Method := { name := "<init>", desc := "()V", sig := { parameters := [], returnType := none }, accessFlags := 1, code := none }
/-- java/lang/Object -/
def k0 : Class := { plain "java/lang/Object" none with
  accessFlags := 33
  interfaces := #[]
  cf := some (fileOf pool0 8 #[] #[{ accessFlags := 1, nameIndex := 5, descriptorIndex := 6, attributes := #[] }] 33 0 #[] #[])
  fields := #[]
  methods := #[k0m0]
  instanceTypes := #[]
  staticTypes := #[]
  resolved := Array.replicate 124 none
  statics := none }

def pool1 : Array CpInfo := pool [(2, .class_ 4), (1, u "java/lang/Object"), (0, u "<init>"), (0, u "()V"), (0, .integer 1048575), (0, .methodref 9 10), (0, .class_ 11), (0, .nameAndType 12 13), (0, u "com/example/tillerfront/tillerfront/engine/ReferencePointsNearestPinLaw"), (0, u "pick"), (0, u "(IZ)J"), (0, .methodref 9 15), (0, .nameAndType 16 17), (0, u "rnd"), (0, u "(J)J"), (0, .long 1024), (1, .double 4652218415073722368), (1, .methodref 23 24), (0, .class_ 25), (0, .nameAndType 26 27), (0, u "com/example/tillerfront/tillerfront/engine/ReferencePoints"), (0, u "nearest"), (0, u "([DI)[D"), (0, .long 512), (1, .long 1023), (3, u "law"), (0, u "(IIIII)Z")] 5

def k1m0 : Method := { name := "<init>", desc := "()V", sig := { parameters := [], returnType := none }, accessFlags := 2, code := none }
def k1c1 : Code := { maxStack := 6, maxLocals := 33, code := code, exceptionTable := #[], attributes := #[] }
def k1m1 : Method := { name := "law", desc := "(IIIII)Z", sig := { parameters := [.int, .int, .int, .int, .int], returnType := some .boolean }, accessFlags := 9, code := some k1c1 }
def k1c2 : Code := { maxStack := 2, maxLocals := 2, code := method_3_code, exceptionTable := #[], attributes := #[] }
def k1m2 : Method := { name := "pick", desc := "(IZ)J", sig := { parameters := [.int, .boolean], returnType := some .long }, accessFlags := 10, code := some k1c2 }
def k1c3 : Code := { maxStack := 4, maxLocals := 4, code := method_4_code, exceptionTable := #[], attributes := #[] }
def k1m3 : Method := { name := "rnd", desc := "(J)J", sig := { parameters := [.long], returnType := some .long }, accessFlags := 10, code := some k1c3 }
/-- com/example/tillerfront/tillerfront/engine/ReferencePointsNearestPinLaw -/
def k1 : Class := { plain "com/example/tillerfront/tillerfront/engine/ReferencePointsNearestPinLaw" (some 0) with
  accessFlags := 49
  interfaces := #[]
  cf := some (fileOf pool1 9 #[] #[{ accessFlags := 2, nameIndex := 5, descriptorIndex := 6, attributes := #[] }, { accessFlags := 9, nameIndex := 34, descriptorIndex := 35, attributes := #[] }, { accessFlags := 10, nameIndex := 12, descriptorIndex := 13, attributes := #[] }, { accessFlags := 10, nameIndex := 16, descriptorIndex := 17, attributes := #[] }] 49 2 #[] #[])
  fields := #[]
  methods := #[k1m0, k1m1, k1m2, k1m3]
  instanceTypes := #[]
  staticTypes := #[]
  resolved := Array.replicate 41 none
  statics := none }

def pool2 : Array CpInfo := pool [(2, .class_ 4), (1, u "java/lang/Object"), (0, u "<init>"), (0, u "()V"), (1, .class_ 10), (1, u "com/example/tillerfront/tillerfront/engine/ReferencePoints"), (3, .class_ 16), (1, u "java/lang/Math"), (71, .methodref 14 89), (0, .nameAndType 90 91), (0, u "round"), (0, u "(D)J"), (12, .class_ 105), (0, u "com/example/tillerfront/tillerfront/engine/ReferencePoints$UniformIterator"), (12, u "nearest"), (0, u "([DI)[D")] 34

def k2m0 : Method := { name := "<init>", desc := "()V", sig := { parameters := [], returnType := none }, accessFlags := 2, code := none }
def k2c1 : Code := { maxStack := 6, maxLocals := 8, code := prog_30_method_5_code, exceptionTable := #[], attributes := #[] }
def k2m1 : Method := { name := "nearest", desc := "([DI)[D", sig := { parameters := [(.array .double), .int], returnType := some (.array .double) }, accessFlags := 8, code := some k2c1 }
/-- com/example/tillerfront/tillerfront/engine/ReferencePoints -/
def k2 : Class := { plain "com/example/tillerfront/tillerfront/engine/ReferencePoints" (some 0) with
  accessFlags := 49
  interfaces := #[]
  cf := some (fileOf pool2 8 #[.nestMembers #[104]] #[{ accessFlags := 2, nameIndex := 5, descriptorIndex := 6, attributes := #[] }, { accessFlags := 8, nameIndex := 118, descriptorIndex := 119, attributes := #[] }] 49 2 #[] #[])
  fields := #[]
  methods := #[k2m0, k2m1]
  instanceTypes := #[]
  staticTypes := #[]
  resolved := Array.replicate 154 none
  statics := none }

def pool3 : Array CpInfo := pool [(1, .class_ 2), (0, u "java/lang/Math"), (1, .class_ 6), (1, u "java/lang/Object"), (0, u "<init>"), (0, u "()V"), (70, .methodref 80 81), (0, .class_ 82), (0, .nameAndType 83 84), (0, u "java/lang/Double"), (0, u "doubleToRawLongBits"), (0, u "(D)J"), (2, .long 9218868437227405312), (1, .long 1074), (1, .long 18446744073709551552), (1, .long 4503599627370495), (1, .long 4503599627370496), (2, .class_ 100), (1, u "java/lang/Math$RandomNumberGeneratorHolder"), (71, u "negativeZeroFloatBits"), (0, u "J"), (2, u "negativeZeroDoubleBits"), (68, u "$assertionsDisabled"), (0, u "Z"), (91, u "twoToTheDoubleScaleDown"), (0, u "D"), (4, u "twoToTheDoubleScaleUp"), (9, u "E"), (3, u "PI"), (2, u "TAU"), (2, u "DEGREES_TO_RADIANS"), (0, u "RADIANS_TO_DEGREES"), (17, u "round")] 76

def k3m0 : Method := { name := "<init>", desc := "()V", sig := { parameters := [], returnType := none }, accessFlags := 2, code := none }
def k3c1 : Code := { maxStack := 4, maxLocals := 10, code := jdk_29_method_22_code, exceptionTable := #[], attributes := #[] }
def k3m1 : Method := { name := "round", desc := "(D)J", sig := { parameters := [.double], returnType := some .long }, accessFlags := 9, code := some k3c1 }
/-- java/lang/Math -/
def k3 : Class := { plain "java/lang/Math" (some 0) with
  accessFlags := 49
  interfaces := #[]
  cf := some (fileOf pool3 1 #[.nestMembers #[98]] #[{ accessFlags := 2, nameIndex := 7, descriptorIndex := 8, attributes := #[] }, { accessFlags := 9, nameIndex := 383, descriptorIndex := 84, attributes := #[] }] 49 4 #[] #[{ accessFlags := 25, nameIndex := 354, descriptorIndex := 339, attributes := #[] }, { accessFlags := 25, nameIndex := 358, descriptorIndex := 339, attributes := #[] }, { accessFlags := 25, nameIndex := 361, descriptorIndex := 339, attributes := #[] }, { accessFlags := 26, nameIndex := 364, descriptorIndex := 339, attributes := #[] }, { accessFlags := 26, nameIndex := 365, descriptorIndex := 339, attributes := #[] }, { accessFlags := 26, nameIndex := 172, descriptorIndex := 173, attributes := #[] }, { accessFlags := 26, nameIndex := 176, descriptorIndex := 173, attributes := #[] }, { accessFlags := 8, nameIndex := 344, descriptorIndex := 339, attributes := #[] }, { accessFlags := 8, nameIndex := 338, descriptorIndex := 339, attributes := #[] }, { accessFlags := 4120, nameIndex := 245, descriptorIndex := 246, attributes := #[] }])
  fields := #[{ name := "E", type := .double, accessFlags := 25, slot := 0, constantValue := 0 }, { name := "PI", type := .double, accessFlags := 25, slot := 1, constantValue := 0 }, { name := "TAU", type := .double, accessFlags := 25, slot := 2, constantValue := 0 }, { name := "DEGREES_TO_RADIANS", type := .double, accessFlags := 26, slot := 3, constantValue := 0 }, { name := "RADIANS_TO_DEGREES", type := .double, accessFlags := 26, slot := 4, constantValue := 0 }, { name := "negativeZeroFloatBits", type := .long, accessFlags := 26, slot := 5, constantValue := 0 }, { name := "negativeZeroDoubleBits", type := .long, accessFlags := 26, slot := 6, constantValue := 0 }, { name := "twoToTheDoubleScaleUp", type := .double, accessFlags := 8, slot := 7, constantValue := 0 }, { name := "twoToTheDoubleScaleDown", type := .double, accessFlags := 8, slot := 8, constantValue := 0 }, { name := "$assertionsDisabled", type := .boolean, accessFlags := 4120, slot := 9, constantValue := 0 }]
  methods := #[k3m0, k3m1]
  instanceTypes := #[]
  staticTypes := #[.double, .double, .double, .double, .double, .long, .long, .double, .double, .boolean]
  resolved := Array.replicate 460 none
  statics := none }

def pool4 : Array CpInfo := pool [(1, .class_ 2), (0, u "java/io/Serializable"), (0, .class_ 4), (0, u "java/lang/Object")] 2

/-- java/io/Serializable -/
def k4 : Class := { plain "java/io/Serializable" (some 0) with
  accessFlags := 1537
  interfaces := #[]
  cf := some (fileOf pool4 1 #[] #[] 1537 3 #[] #[])
  fields := #[]
  methods := #[]
  instanceTypes := #[]
  staticTypes := #[]
  resolved := Array.replicate 7 none
  statics := none }

def pool5 : Array CpInfo := pool [(2, .class_ 4), (1, u "java/lang/Object"), (0, u "<init>"), (0, u "()V"), (1, .class_ 10), (1, u "java/lang/Number"), (2, .class_ 14), (0, u "java/io/Serializable"), (0, u "serialVersionUID"), (0, u "J")] 20

def k5m0 : Method := { name := "<init>", desc := "()V", sig := { parameters := [], returnType := none }, accessFlags := 1, code := none }
/-- java/lang/Number -/
def k5 : Class := { plain "java/lang/Number" (some 0) with
  accessFlags := 1057
  interfaces := #[4]
  cf := some (fileOf pool5 8 #[] #[{ accessFlags := 1, nameIndex := 5, descriptorIndex := 6, attributes := #[] }] 1057 2 #[13] #[{ accessFlags := 26, nameIndex := 15, descriptorIndex := 16, attributes := #[] }])
  fields := #[{ name := "serialVersionUID", type := .long, accessFlags := 26, slot := 0, constantValue := 0 }]
  methods := #[k5m0]
  instanceTypes := #[]
  staticTypes := #[.long]
  resolved := Array.replicate 37 none
  statics := none }

def pool6 : Array CpInfo := pool [(1, .class_ 2), (0, u "java/lang/Comparable"), (0, .class_ 4), (0, u "java/lang/Object")] 7

/-- java/lang/Comparable -/
def k6 : Class := { plain "java/lang/Comparable" (some 0) with
  accessFlags := 1537
  interfaces := #[]
  cf := some (fileOf pool6 1 #[] #[] 1537 3 #[] #[])
  fields := #[]
  methods := #[]
  instanceTypes := #[]
  staticTypes := #[]
  resolved := Array.replicate 12 none
  statics := none }

def pool7 : Array CpInfo := pool [(1, .class_ 2), (0, u "java/lang/constant/Constable"), (0, .class_ 4), (0, u "java/lang/Object")] 6

/-- java/lang/constant/Constable -/
def k7 : Class := { plain "java/lang/constant/Constable" (some 0) with
  accessFlags := 1537
  interfaces := #[]
  cf := some (fileOf pool7 1 #[] #[] 1537 3 #[] #[])
  fields := #[]
  methods := #[]
  instanceTypes := #[]
  staticTypes := #[]
  resolved := Array.replicate 11 none
  statics := none }

def pool8 : Array CpInfo := pool [(1, .class_ 2), (0, u "java/lang/constant/ConstantDesc"), (0, .class_ 4), (0, u "java/lang/Object")] 32

/-- java/lang/constant/ConstantDesc -/
def k8 : Class := { plain "java/lang/constant/ConstantDesc" (some 0) with
  accessFlags := 1537
  interfaces := #[]
  cf := some (fileOf pool8 1 #[] #[] 1537 3 #[] #[])
  fields := #[]
  methods := #[]
  instanceTypes := #[]
  staticTypes := #[]
  resolved := Array.replicate 37 none
  statics := none }

def pool9 : Array CpInfo := pool [(1, .class_ 2), (0, u "java/lang/Double"), (46, u "(D)J"), (64, .class_ 116), (1, u "java/lang/Number"), (3, u "value"), (0, u "D"), (14, u "doubleToRawLongBits"), (36, u "TYPE"), (0, u "Ljava/lang/Class;"), (0, .class_ 176), (0, u "java/lang/Comparable"), (0, .class_ 178), (0, u "java/lang/constant/Constable"), (0, .class_ 180), (0, u "java/lang/constant/ConstantDesc"), (0, u "POSITIVE_INFINITY"), (3, u "NEGATIVE_INFINITY"), (2, u "NaN"), (2, u "MAX_VALUE"), (0, u "MIN_NORMAL"), (0, u "MIN_VALUE"), (2, u "SIZE"), (0, u "I"), (1, u "PRECISION"), (1, u "MAX_EXPONENT"), (1, u "MIN_EXPONENT"), (1, u "BYTES"), (3, u "serialVersionUID"), (0, u "J")] 79

def k9m0 : Method := { name := "doubleToRawLongBits", desc := "(D)J", sig := { parameters := [.double], returnType := some .long }, accessFlags := 265, code := none }
/-- java/lang/Double -/
def k9 : Class := { plain "java/lang/Double" (some 5) with
  accessFlags := 49
  interfaces := #[6, 7, 8]
  cf := some (fileOf pool9 1 #[] #[{ accessFlags := 265, nameIndex := 136, descriptorIndex := 49, attributes := #[] }] 49 114 #[175, 177, 179] #[{ accessFlags := 25, nameIndex := 181, descriptorIndex := 121, attributes := #[] }, { accessFlags := 25, nameIndex := 185, descriptorIndex := 121, attributes := #[] }, { accessFlags := 25, nameIndex := 188, descriptorIndex := 121, attributes := #[] }, { accessFlags := 25, nameIndex := 191, descriptorIndex := 121, attributes := #[] }, { accessFlags := 25, nameIndex := 192, descriptorIndex := 121, attributes := #[] }, { accessFlags := 25, nameIndex := 193, descriptorIndex := 121, attributes := #[] }, { accessFlags := 25, nameIndex := 196, descriptorIndex := 197, attributes := #[] }, { accessFlags := 25, nameIndex := 199, descriptorIndex := 197, attributes := #[] }, { accessFlags := 25, nameIndex := 201, descriptorIndex := 197, attributes := #[] }, { accessFlags := 25, nameIndex := 203, descriptorIndex := 197, attributes := #[] }, { accessFlags := 25, nameIndex := 205, descriptorIndex := 197, attributes := #[] }, { accessFlags := 25, nameIndex := 173, descriptorIndex := 174, attributes := #[] }, { accessFlags := 18, nameIndex := 120, descriptorIndex := 121, attributes := #[] }, { accessFlags := 26, nameIndex := 209, descriptorIndex := 210, attributes := #[] }])
  fields := #[{ name := "POSITIVE_INFINITY", type := .double, accessFlags := 25, slot := 0, constantValue := 0 }, { name := "NEGATIVE_INFINITY", type := .double, accessFlags := 25, slot := 1, constantValue := 0 }, { name := "NaN", type := .double, accessFlags := 25, slot := 2, constantValue := 0 }, { name := "MAX_VALUE", type := .double, accessFlags := 25, slot := 3, constantValue := 0 }, { name := "MIN_NORMAL", type := .double, accessFlags := 25, slot := 4, constantValue := 0 }, { name := "MIN_VALUE", type := .double, accessFlags := 25, slot := 5, constantValue := 0 }, { name := "SIZE", type := .int, accessFlags := 25, slot := 6, constantValue := 0 }, { name := "PRECISION", type := .int, accessFlags := 25, slot := 7, constantValue := 0 }, { name := "MAX_EXPONENT", type := .int, accessFlags := 25, slot := 8, constantValue := 0 }, { name := "MIN_EXPONENT", type := .int, accessFlags := 25, slot := 9, constantValue := 0 }, { name := "BYTES", type := .int, accessFlags := 25, slot := 10, constantValue := 0 }, { name := "TYPE", type := (.object "java/lang/Class"), accessFlags := 25, slot := 11, constantValue := 0 }, { name := "value", type := .double, accessFlags := 18, slot := 0, constantValue := 0 }, { name := "serialVersionUID", type := .long, accessFlags := 26, slot := 12, constantValue := 0 }]
  methods := #[k9m0]
  instanceTypes := #[.double]
  staticTypes := #[.double, .double, .double, .double, .double, .double, .int, .int, .int, .int, .int, (.object "java/lang/Class"), .long]
  resolved := Array.replicate 290 none
  statics := none }

def pool10 : Array CpInfo := pool [(1, u "java/lang/Cloneable"), (0, .class_ 1), (0, u "java/lang/Object"), (0, .class_ 3)] 3

/-- java/lang/Cloneable -/
def k10 : Class := { plain "java/lang/Cloneable" (some 0) with
  accessFlags := 1537
  interfaces := #[]
  cf := some (fileOf pool10 2 #[] #[] 1537 4 #[] #[])
  fields := #[]
  methods := #[]
  instanceTypes := #[]
  staticTypes := #[]
  resolved := Array.replicate 8 none
  statics := none }

/-- the primitive byte -/
def k11 : Class := { plain "byte" none with kind := .primitive 'B', accessFlags := 0x411 }
/-- [B -/
def k12 : Class := { plain "[B" (some 0) with kind := .array 11 .byte, interfaces := #[10, 4], accessFlags := 1041 }

/-- the primitive double -/
def k13 : Class := { plain "double" none with kind := .primitive 'D', accessFlags := 0x411 }
/-- [D -/
def k14 : Class := { plain "[D" (some 0) with kind := .array 13 .double, interfaces := #[10, 4], accessFlags := 1041 }

/-- the primitive int -/
def k15 : Class := { plain "int" none with kind := .primitive 'I', accessFlags := 0x411 }
/-- [I -/
def k16 : Class := { plain "[I" (some 0) with kind := .array 15 .int, interfaces := #[10, 4], accessFlags := 1041 }

def heap : Heap := #[]
def classes : Array Class := #[k0, k1, k2, k3, k4, k5, k6, k7, k8, k9, k10, k11, k12, k13, k14, k15, k16]
def interned : List (Array UInt16 × Addr) := []
def slotsUsed : Nat := 0
def theMethod : MethodId := ⟨1, 1⟩
def args0 : Array Value := #[.int 7, .int 5, .int 1, .int 2, .int 9]
def aboutOver (below : List Frame) : State where
  vm := { classes := classes, interned := interned.toArray }
  heap := heap
  slotsUsed := slotsUsed
  threads := #[{ frames := .invoking theMethod args0 :: below }]
def below0 : List Frame := [.native { method := ⟨0, 0⟩, args := #[] }]
def about1 : State := aboutOver below0
def p0 : Program := .bare "" "" ""
def e0 : Env := launch0.env 0 0 0
theorem w_frames : about1.frames = Frame.invoking theMethod args0 :: below0 := rfl
set_option maxRecDepth 65536 in
theorem w_args : argsFit about1.vm theMethod args0 = true := by decide +kernel
set_option maxRecDepth 65536 in
theorem w_heap : heapFits about1 = true := by decide +kernel
set_option maxRecDepth 65536 in
theorem w_runnable : about1.curStatus? = some .runnable := by decide +kernel
set_option maxRecDepth 65536 in
theorem w_alone : about1.alone = true := by decide +kernel
set_option maxRecDepth 65536 in
theorem w_named : about1.methodNamed? x = some theMethod := by decide +kernel
set_option maxRecDepth 65536 in
theorem w_hears : about1.hears theMethod below0 = true := by decide +kernel
set_option maxRecDepth 65536 in
theorem w_ripe : about1.ripe theMethod args0 below0 = true := by decide +kernel
theorem w_running : about1.status = .running := rfl
set_option maxRecDepth 65536 in
theorem w_room : about1.hasRoom e0.platform room_1 = true :=
  launch0.hasRoom_least _ room_1 (by decide +kernel) (by decide +kernel) (by decide +kernel) (by decide +kernel) (by decide +kernel) (by decide +kernel)
theorem allAtoms_all (ts : List Jvm.Cond) (a : Array Jvm.Value) (st : Jvm.State) : (allAtoms ts).before a st = ts.all (fun c => c.before a st) := by
  induction ts with
  | nil => rfl
  | cons c t ih =>
    show (Jvm.Cond.and c (allAtoms t)).before a st = _
    rw [Jvm.Cond.before_and, ih, List.all_cons]
def words1 : List Jvm.Cond := Jvm.Cond.code x code maxLocals ret :: tables_1
/-- a 'code' word, met by the world's own term for the bytes: nothing is compared byte by byte -/
theorem code_word {y : MethodName} {bytes : ByteArray} {mx : Nat} {rt : Option FieldType} {a : Array Value} {s : State} {m : MethodId} {meth : Method} {c : Code} (h1 : s.methodNamed? y = some m) (h2 : s.vm.method? m = some meth) (h3 : meth.code = some c) (h4 : c.code = bytes)
    (h5 : (c.maxLocals == mx && c.exceptionTable.isEmpty && decide (c.maxStack ≤ mostOperands) && decide (meth.sig.returnType = rt) && !meth.locks && decide (parseMethodDescriptor y.desc = some meth.sig)) = true) : (Jvm.Cond.code y bytes mx rt).before a s = true := by
  simp only [Bool.and_eq_true, beq_iff_eq, Bool.not_eq_true', decide_eq_true_eq] at h5
  obtain ⟨⟨⟨⟨⟨g1, g2⟩, g3⟩, g4⟩, g5⟩, g6⟩ := h5
  simp [Cond.before, Cond.holds, Cond.value, h1, h2, h3, h4, g1, g2, g3, g4, g5, g6]
def isCode : Jvm.Cond → Bool
  | .code _ _ _ _ => true
  | _ => false
theorem all_split {L : List Jvm.Cond} {P : Jvm.Cond → Bool} (h1 : L.all (fun c => isCode c || P c) = true) (h2 : ∀ c ∈ L.filter isCode, P c = true) : L.all P = true := by
  refine List.all_eq_true.mpr fun c hc => ?_
  have h := List.all_eq_true.mp h1 c hc
  rcases Bool.eq_false_or_eq_true (isCode c) with hi | hi
  · exact h2 c (List.mem_filter.mpr ⟨hc, hi⟩)
  · simpa [hi] using h
set_option maxRecDepth 65536 in
theorem w_c0 : (Jvm.Cond.code x code maxLocals ret).before args0 about1 = true := code_word (m := ⟨1, 1⟩) (meth := k1m1) (c := k1c1) (by decide +kernel) rfl rfl rfl (by decide +kernel)
set_option maxRecDepth 65536 in
theorem w_c1 : (Jvm.Cond.code ({ cls := "com/example/tillerfront/tillerfront/engine/ReferencePointsNearestPinLaw", name := "pick", desc := "(IZ)J" } : Jvm.MethodName) method_3_code (2 : Nat) (Option.some Jvm.ClassFile.FieldType.long)).before args0 about1 = true := code_word (m := ⟨1, 2⟩) (meth := k1m2) (c := k1c2) (by decide +kernel) rfl rfl rfl (by decide +kernel)
set_option maxRecDepth 65536 in
theorem w_c2 : (Jvm.Cond.code ({ cls := "com/example/tillerfront/tillerfront/engine/ReferencePointsNearestPinLaw", name := "rnd", desc := "(J)J" } : Jvm.MethodName) method_4_code (4 : Nat) (Option.some Jvm.ClassFile.FieldType.long)).before args0 about1 = true := code_word (m := ⟨1, 3⟩) (meth := k1m3) (c := k1c3) (by decide +kernel) rfl rfl rfl (by decide +kernel)
set_option maxRecDepth 65536 in
theorem w_c3 : (Jvm.Cond.code ({ cls := "com/example/tillerfront/tillerfront/engine/ReferencePoints", name := "nearest", desc := "([DI)[D" } : Jvm.MethodName) prog_30_method_5_code (8 : Nat) (Option.some (Jvm.ClassFile.FieldType.array Jvm.ClassFile.FieldType.double))).before args0 about1 = true := code_word (m := ⟨2, 1⟩) (meth := k2m1) (c := k2c1) (by decide +kernel) rfl rfl rfl (by decide +kernel)
set_option maxRecDepth 65536 in
theorem w_c4 : (Jvm.Cond.code ({ cls := "java/lang/Math", name := "round", desc := "(D)J" } : Jvm.MethodName) jdk_29_method_22_code (10 : Nat) (Option.some Jvm.ClassFile.FieldType.long)).before args0 about1 = true := code_word (m := ⟨3, 1⟩) (meth := k3m1) (c := k3c1) (by decide +kernel) rfl rfl rfl (by decide +kernel)
def codes1 : List Jvm.Cond := [Jvm.Cond.code x code maxLocals ret, Jvm.Cond.code ({ cls := "com/example/tillerfront/tillerfront/engine/ReferencePointsNearestPinLaw", name := "pick", desc := "(IZ)J" } : Jvm.MethodName) method_3_code (2 : Nat) (Option.some Jvm.ClassFile.FieldType.long), Jvm.Cond.code ({ cls := "com/example/tillerfront/tillerfront/engine/ReferencePointsNearestPinLaw", name := "rnd", desc := "(J)J" } : Jvm.MethodName) method_4_code (4 : Nat) (Option.some Jvm.ClassFile.FieldType.long), Jvm.Cond.code ({ cls := "com/example/tillerfront/tillerfront/engine/ReferencePoints", name := "nearest", desc := "([DI)[D" } : Jvm.MethodName) prog_30_method_5_code (8 : Nat) (Option.some (Jvm.ClassFile.FieldType.array Jvm.ClassFile.FieldType.double)), Jvm.Cond.code ({ cls := "java/lang/Math", name := "round", desc := "(D)J" } : Jvm.MethodName) jdk_29_method_22_code (10 : Nat) (Option.some Jvm.ClassFile.FieldType.long)]
set_option maxRecDepth 65536 in
theorem codes_eq : words1.filter isCode = codes1 := rfl
theorem w_codes : ∀ c ∈ words1.filter isCode, c.before args0 about1 = true := by
  rw [codes_eq]
  intro c hc
  simp only [codes1, List.mem_cons, List.not_mem_nil, or_false] at hc
  rcases hc with rfl | rfl | rfl | rfl | rfl
  · exact w_c0
  · exact w_c1
  · exact w_c2
  · exact w_c3
  · exact w_c4
set_option maxRecDepth 65536 in
theorem w_t1 : (words1.take 24).all (fun c => isCode c || c.before args0 about1) = true := by decide +kernel
set_option maxRecDepth 65536 in
theorem w_t2 : (words1.drop 24).all (fun c => isCode c || c.before args0 about1) = true := by decide +kernel
theorem w_tables : (allAtoms (Jvm.Cond.code x code maxLocals ret :: tables_1)).before args0 about1 = true := by
  rw [allAtoms_all]
  show words1.all (fun c => c.before args0 about1) = true
  refine all_split ?_ w_codes
  rw [← List.take_append_drop 24 words1, List.all_append, w_t1, w_t2]
  rfl
set_option maxRecDepth 65536 in
theorem w_case : (Jvm.Cond.and given_1 narrow_1).before args0 about1 = true := by decide +kernel
theorem w_applies : (headSpec (Jvm.Cond.code x code maxLocals ret :: tables_1) room_1).applies x e0.platform about1 = true :=
  (Spec.applies_iff w_frames).mpr ⟨w_running, w_runnable, w_alone, w_named, w_hears, w_ripe, w_room, w_tables⟩
theorem atStart : AtStart classFile x code maxLocals ret World_1 tables_1 room_1 Calls_1 rest_1 Pre_1 launch0 p0 e0 about1 theMethod args0 below0 :=
  ⟨lists_1, trivial, launch0.admits_env _ _ _, launch0.least_env, fairChoices_fair.cas, fairChoices_fair.clock, w_frames, w_args, w_heap, w_applies, trivial, trivial, w_case⟩
end start1
theorem witness_1 : WitnessClaimed_1 := ⟨start1.p0, start1.e0, start1.about1, start1.theMethod, start1.args0, start1.below0, start1.atStart⟩
end Jvm.Pilot.@@N@@
