import JvmDerived
import JvmDerived.Pilot.@@N@@Statement
import JvmDerived.Pilot.@@N@@Code
set_option linter.unusedVariables false
set_option linter.unusedSimpArgs false
namespace Jvm.OwnFP
open Jvm.FP.Core
/-! own layer over the library's laws of doubles: values in units of the least double (zval), dyadic values, rounding bounds -/
abbrev zv (a : UInt64) : Int := zval b64 (val64 a)
theorem U_pos : (0 : Int) < (one64 : Int) := by have := one64_pos; omega
theorem signed_bd (s : Bool) (m : Nat) : -(m : Int) ≤ signed s m ∧ signed s m ≤ (m : Int) := by unfold signed; split <;> omega
theorem zv_bd (a : UInt64) : -(zmag b64 (val64 a) : Int) ≤ zv a ∧ zv a ≤ (zmag b64 (val64 a) : Int) := signed_bd _ _
theorem fin_between {a V W : UInt64} (hV : DFin V) (hW : DFin W) (hn : val64 a ≠ .nan) (h1 : zv W ≤ zv a) (h2 : zv a ≤ zv V) : DFin a := by
  cases hd : val64 a with
  | nan => exact absurd hd hn
  | fin s c q => exact ⟨s, c, q, hd⟩
  | inf s =>
    exfalso
    have a1 := hV.zval_lt; have a2 := hW.zval_lt
    have b1 := zv_bd V; have b2 := zv_bd W
    have e : zv a = signed s (b64.tails * 2 ^ (b64.exps - 2)) := by show zval b64 (val64 a) = _; rw [hd]; rfl
    generalize b64.tails * 2 ^ (b64.exps - 2) = TOP at a1 a2 e
    cases s
    · have : zv a = (TOP : Int) := e
      omega
    · have : zv a = -(TOP : Int) := e
      omega
theorem qmax_b64 : b64.qmax = 971 := by decide
theorem rep_exists (n : Int) (k : Nat) (hk : k ≤ 1074) (hn : n.natAbs < 2 ^ 53) : ∃ V, DFin V ∧ zv V * 2 ^ k = n * (one64 : Int) := by
  obtain ⟨c', q', h1, h2⟩ := round_exact (f := b64) good_b64 (decide (n < 0)) (c := n.natAbs) (q := -(k : Int)) hn (by rw [qmin_b64]; omega) (by rw [qmax_b64]; omega)
  have hf := round_fits good_b64 (.fin (decide (n < 0)) n.natAbs (-(k : Int)))
  have hv := val64_of64 hf
  rw [h1] at hv
  refine ⟨of64 (round b64 (.fin (decide (n < 0)) n.natAbs (-(k : Int)))), ⟨_, _, _, by rw [h1]; exact hv⟩, ?_⟩
  show zval b64 (val64 (of64 (round b64 (.fin (decide (n < 0)) n.natAbs (-(k : Int)))))) * 2 ^ k = _
  rw [h1, hv]
  show signed (decide (n < 0)) (inUnits c' q' b64.qmin) * 2 ^ k = _
  rw [h2]
  have e1 : inUnits n.natAbs (-(k : Int)) b64.qmin * 2 ^ k = n.natAbs * one64 := by
    unfold inUnits one64
    rw [qmin_b64, Nat.mul_assoc, ← Nat.pow_add]
    congr 2 <;> omega
  have e2 : signed (decide (n < 0)) (inUnits n.natAbs (-(k : Int)) b64.qmin) * ((2 ^ k : Nat) : Int) = signed (decide (n < 0)) n.natAbs * (one64 : Int) := by
    rw [← signed_mul, e1, signed_mul]
  have e3 : signed (decide (n < 0)) n.natAbs = n := by
    unfold signed
    by_cases h : n < 0
    · simp [h]; omega
    · simp [h]; omega
  rw [e3] at e2
  rw [← e2, Int.natCast_pow]; rfl
theorem rep_up (n : Int) (j : Nat) (hj : j ≤ 971) (hn : n.natAbs < 2 ^ 53) : ∃ V, DFin V ∧ zv V = n * 2 ^ j * (one64 : Int) := by
  obtain ⟨c', q', h1, h2⟩ := round_exact (f := b64) good_b64 (decide (n < 0)) (c := n.natAbs) (q := (j : Int)) hn (by rw [qmin_b64]; omega) (by rw [qmax_b64]; omega)
  have hf := round_fits good_b64 (.fin (decide (n < 0)) n.natAbs (j : Int))
  have hv := val64_of64 hf
  rw [h1] at hv
  refine ⟨of64 (round b64 (.fin (decide (n < 0)) n.natAbs (j : Int))), ⟨_, _, _, by rw [h1]; exact hv⟩, ?_⟩
  show zval b64 (val64 (of64 (round b64 (.fin (decide (n < 0)) n.natAbs (j : Int))))) = _
  rw [h1, hv]
  show signed (decide (n < 0)) (inUnits c' q' b64.qmin) = _
  rw [h2]
  have e1 : inUnits n.natAbs (j : Int) b64.qmin = n.natAbs * (2 ^ j * one64) := by
    unfold inUnits one64
    rw [qmin_b64, ← Nat.pow_add]
    congr 2 <;> omega
  have e3 : signed (decide (n < 0)) n.natAbs = n := by
    unfold signed
    by_cases h : n < 0
    · simp [h]; omega
    · simp [h]; omega
  rw [e1, signed_mul, e3, Int.natCast_mul, Int.natCast_pow, Int.mul_assoc]; rfl
/-- the double is finite and worth n / 2^k -/
def Dy (n : Int) (k : Nat) (a : UInt64) : Prop := DFin a ∧ zv a * 2 ^ k = n * (one64 : Int)
theorem two_pos (k : Nat) : (0 : Int) < 2 ^ k := Int.pow_pos (by decide)
theorem Dy.fin {n : Int} {k : Nat} {a : UInt64} (h : Dy n k a) : DFin a := h.1
theorem Dy.nn {n : Int} {k : Nat} {a : UInt64} (h : Dy n k a) : val64 a ≠ .nan := h.1.ne_nan
theorem dint_fin {i : Int} {a : UInt64} (h : DInt i a) : DFin a := by
  unfold DInt at h
  cases hd : val64 a with
  | nan => rw [hd] at h; exact h.elim
  | inf s => rw [hd] at h; exact h.elim
  | fin s c q => exact ⟨s, c, q, hd⟩
theorem Dy.of_int {i : Int} {a : UInt64} (h : DInt i a) : Dy i 0 a := ⟨dint_fin h, by rw [show zv a = i * (one64 : Int) from DInt_zval h]; simp⟩
theorem dy_i2d (a : Int32) : Dy a.toInt 0 (i2d a) := Dy.of_int (i2d_int a)
theorem dy_l2d {a : Int64} (h : a.toInt.natAbs ≤ 2 ^ 53) : Dy a.toInt 0 (l2d a) := Dy.of_int (l2d_int h)
theorem dy_zero : Dy 0 0 0 := ⟨⟨_, _, _, val64_zero⟩, by rw [show zv 0 = 0 from zval64_zero]; simp⟩
theorem dy_one : Dy 1 0 4607182418800017408 := Dy.of_int dint_one
theorem Dy.up {n : Int} {k : Nat} {a : UInt64} (h : Dy n k a) (j : Nat) : Dy (n * 2 ^ j) (k + j) a := ⟨h.1, by rw [Int.pow_add, ← Int.mul_assoc, h.2]; (generalize one64 = U; ac_rfl)⟩
theorem cancel {x y : Int} {k : Nat} (h : x * 2 ^ k = y * 2 ^ k) : x = y := Int.eq_of_mul_eq_mul_right (Int.ne_of_gt (two_pos k)) h
theorem Dy.eq {n : Int} {k : Nat} {a b : UInt64} (ha : Dy n k a) (hb : Dy n k b) : zv a = zv b := cancel (ha.2.trans hb.2.symm)
theorem val_dneg (a : UInt64) (h : val64 a ≠ .nan) : val64 (Jvm.FP.dneg a) = negate (val64 a) := by
  refine val64_neg_bits ?_
  have hx : (Jvm.FP.dneg a).toNat = a.toNat ^^^ 2 ^ 63 := by
    show (a ^^^ 0x8000000000000000).toNat = _
    rw [UInt64.toNat_xor]; rfl
  have hlt := a.toNat_lt
  by_cases hb : a.toNat < 2 ^ 63
  · right
    rw [hx, Nat.xor_comm]
    have := Nat.two_pow_add_eq_or_of_lt hb 1
    have e2 : (2 ^ 63 ^^^ a.toNat) = 2 ^ 63 + a.toNat := by
      rw [Nat.mul_one] at this
      rw [this]
      apply Nat.eq_of_testBit_eq; intro i
      simp only [Nat.testBit_xor, Nat.testBit_or, Nat.testBit_two_pow]
      by_cases q : 63 = i
      · subst q; simp [Nat.testBit_lt_two_pow hb]
      · simp [q]
    omega
  · left
    have hb' : a.toNat - 2 ^ 63 < 2 ^ 63 := by omega
    have := Nat.two_pow_add_eq_or_of_lt hb' 1
    rw [Nat.mul_one] at this
    have e0 : a.toNat = 2 ^ 63 ||| (a.toNat - 2 ^ 63) := by omega
    have e2 : a.toNat ^^^ 2 ^ 63 = a.toNat - 2 ^ 63 := by
      apply Nat.eq_of_testBit_eq; intro i
      rw [Nat.testBit_xor, Nat.testBit_two_pow]
      have t := congrArg (fun z => z.testBit i) e0
      simp only [Nat.testBit_or, Nat.testBit_two_pow] at t
      rw [t]
      by_cases q : 63 = i
      · subst q; simp [Nat.testBit_lt_two_pow hb']
      · simp [q]
    omega
theorem dneg_fin {a : UInt64} (h : DFin a) : DFin (Jvm.FP.dneg a) := by
  obtain ⟨s, c, q, e⟩ := h
  exact ⟨!s, c, q, by rw [val_dneg a (by rw [e]; exact nofun), e]; rfl⟩
theorem dneg_zv {a : UInt64} (h : val64 a ≠ .nan) : zv (Jvm.FP.dneg a) = -zv a := by
  show zval b64 (val64 (Jvm.FP.dneg a)) = _
  rw [val_dneg a h, zval_negate]
theorem dy_neg {n : Int} {k : Nat} {a : UInt64} (h : Dy n k a) : Dy (-n) k (Jvm.FP.dneg a) := ⟨dneg_fin h.1, by rw [dneg_zv h.nn, Int.neg_mul, h.2, Int.neg_mul]⟩
theorem cneg_fin {a : UInt64} (h : DFin a) : DFin (dneg a) := by
  obtain ⟨s, c, q, e⟩ := h
  exact ⟨!s, c, q, by rw [val64_dneg, e]; rfl⟩
theorem cneg_zv (a : UInt64) : zv (dneg a) = -zv a := by
  show zval b64 (val64 (dneg a)) = _
  rw [val64_dneg, zval_negate]
-- sums
theorem add_nn {a b : UInt64} (ha : DFin a) (hb : DFin b) : val64 (dadd a b) ≠ .nan := (notNaN_iff _).mp (dadd_out ha.notNaN hb)
theorem add_le {a b V : UInt64} (ha : DFin a) (hb : DFin b) (hV : val64 V ≠ .nan) (h : zv a + zv b ≤ zv V) : zv (dadd a b) ≤ zv V := by
  show zval b64 (val64 (dadd a b)) ≤ _
  rw [val64_dadd]
  exact sum_le good_b64 ha hb (val64_fits a) (val64_fits b) (val64_fits V) hV h
theorem add_ge {a b V : UInt64} (ha : DFin a) (hb : DFin b) (hV : val64 V ≠ .nan) (h : zv V ≤ zv a + zv b) : zv V ≤ zv (dadd a b) := by
  show _ ≤ zval b64 (val64 (dadd a b))
  rw [val64_dadd]
  exact sum_ge good_b64 ha hb (val64_fits a) (val64_fits b) (val64_fits V) hV h
theorem add_exact {a b V : UInt64} (ha : DFin a) (hb : DFin b) (hV : DFin V) (h : zv a + zv b = zv V) : DFin (dadd a b) ∧ zv (dadd a b) = zv V := by
  have h1 := add_le ha hb hV.ne_nan (Int.le_of_eq h)
  have h2 := add_ge ha hb hV.ne_nan (Int.le_of_eq h.symm)
  exact ⟨fin_between hV hV (add_nn ha hb) h2 h1, Int.le_antisymm h1 h2⟩
theorem dy_add {n m : Int} {k : Nat} {a b : UInt64} (ha : Dy n k a) (hb : Dy m k b) (hk : k ≤ 1074) (h : (n + m).natAbs < 2 ^ 53) : Dy (n + m) k (dadd a b) := by
  obtain ⟨V, hV, e⟩ := rep_exists (n + m) k hk h
  have q : zv a + zv b = zv V := cancel (k := k) (by rw [Int.add_mul, ha.2, hb.2, e, Int.add_mul])
  obtain ⟨h1, h2⟩ := add_exact ha.1 hb.1 hV q
  exact ⟨h1, by rw [h2]; exact e⟩
theorem dy_sub {n m : Int} {k : Nat} {a b : UInt64} (ha : Dy n k a) (hb : Dy m k b) (hk : k ≤ 1074) (h : (n - m).natAbs < 2 ^ 53) : Dy (n - m) k (dsub a b) := by
  rw [dsub_eq]
  have hb' : Dy (-m) k (dneg b) := ⟨cneg_fin hb.1, by rw [cneg_zv, Int.neg_mul, hb.2, Int.neg_mul]⟩
  have := dy_add ha hb' hk (by rw [← Int.sub_eq_add_neg]; exact h)
  rw [← Int.sub_eq_add_neg] at this; exact this
-- products
theorem mul_nn {a b : UInt64} (ha : DFin a) (hb : DFin b) : val64 (dmul a b) ≠ .nan := (notNaN_iff _).mp (dmul_out ha hb)
theorem mul_units {a b : UInt64} (ha : DFin a) (hb : DFin b) : ∃ s c q, exactProduct (val64 a) (val64 b) = .fin s c q ∧ 2 * b64.qmin ≤ q ∧ signed s (inUnits c q (2 * b64.qmin)) = zv a * zv b := by
  obtain ⟨s, c, q, ea⟩ := ha
  obtain ⟨t, d, r, eb⟩ := hb
  have fa := val64_fits a; have fb := val64_fits b
  rw [ea] at fa; rw [eb] at fb
  obtain ⟨h1, h2, h3⟩ := product_units fa fb
  refine ⟨_, _, _, by rw [ea, eb]; exact h1, h2, ?_⟩
  rw [h3, signed_xor]
  show _ = zval b64 (val64 a) * zval b64 (val64 b)
  rw [ea, eb]; rfl
theorem two_qmin : (b64.qmin - 2 * b64.qmin).toNat = (-b64.qmin).toNat := by congr 1 <;> omega
theorem mul_le {a b V : UInt64} (ha : DFin a) (hb : DFin b) (hV : val64 V ≠ .nan) (h : zv a * zv b ≤ zv V * (one64 : Int)) : zv (dmul a b) ≤ zv V := by
  obtain ⟨s, c, q, e1, e2, e3⟩ := mul_units ha hb
  show zval b64 (val64 (dmul a b)) ≤ zval b64 (val64 V)
  rw [val64_dmul, e1]
  refine zval_round_le good_b64 (val64_fits V) hV (e0 := 2 * b64.qmin) (by rw [qmin_b64]; decide) e2 ?_
  rw [e3, two_qmin, pow_qmin64]; exact h
theorem mul_ge {a b V : UInt64} (ha : DFin a) (hb : DFin b) (hV : val64 V ≠ .nan) (h : zv V * (one64 : Int) ≤ zv a * zv b) : zv V ≤ zv (dmul a b) := by
  obtain ⟨s, c, q, e1, e2, e3⟩ := mul_units ha hb
  show zval b64 (val64 V) ≤ zval b64 (val64 (dmul a b))
  rw [val64_dmul, e1]
  refine zval_round_ge good_b64 (val64_fits V) hV (e0 := 2 * b64.qmin) (by rw [qmin_b64]; decide) e2 ?_
  rw [e3, two_qmin, pow_qmin64]; exact h
theorem mul_exact {a b V : UInt64} (ha : DFin a) (hb : DFin b) (hV : DFin V) (h : zv a * zv b = zv V * (one64 : Int)) : DFin (dmul a b) ∧ zv (dmul a b) = zv V := by
  have h1 := mul_le ha hb hV.ne_nan (Int.le_of_eq h)
  have h2 := mul_ge ha hb hV.ne_nan (Int.le_of_eq h.symm)
  exact ⟨fin_between hV hV (mul_nn ha hb) h2 h1, Int.le_antisymm h1 h2⟩
theorem dy_mul {n m : Int} {k j : Nat} {a b : UInt64} (ha : Dy n k a) (hb : Dy m j b) (hk : k + j ≤ 1074) (h : (n * m).natAbs < 2 ^ 53) : Dy (n * m) (k + j) (dmul a b) := by
  obtain ⟨V, hV, e⟩ := rep_exists (n * m) (k + j) hk h
  have q : zv a * zv b = zv V * (one64 : Int) := cancel (k := k + j) (by
    have : zv a * zv b * 2 ^ (k + j) = (zv a * 2 ^ k) * (zv b * 2 ^ j) := by rw [Int.pow_add]; (generalize one64 = U; ac_rfl)
    rw [this, ha.2, hb.2, show zv V * (one64 : Int) * 2 ^ (k + j) = zv V * 2 ^ (k + j) * (one64 : Int) by (generalize one64 = U; ac_rfl), e]; (generalize one64 = U; ac_rfl))
  obtain ⟨h1, h2⟩ := mul_exact ha.1 hb.1 hV q
  exact ⟨h1, by rw [h2]; exact e⟩
-- quotients
theorem nz_of {b : UInt64} (hb : DFin b) (h : zv b ≠ 0) : ¬ DZero b := fun q => h q.zval
theorem div_nn {a b : UInt64} (ha : DFin a) (hb : DFin b) (h : zv b ≠ 0) : val64 (ddiv a b) ≠ .nan := (notNaN_iff _).mp (ddiv_out ha.notNaN hb (nz_of hb h))
theorem div_pows {q r e0 : Int} (hq : b64.qmin ≤ q) (hr : b64.qmin ≤ r) (h0 : e0 ≤ b64.qmin) (h1 : e0 ≤ q - r) :
    2 ^ (q - r - e0).toNat * 2 ^ (r - b64.qmin).toNat = 2 ^ (q - b64.qmin).toNat * one64 * 2 ^ (b64.qmin - e0).toNat := by
  unfold one64
  rw [← Nat.pow_add, ← Nat.pow_add, ← Nat.pow_add]
  rw [qmin_b64] at *
  congr 1 <;> omega
theorem div_val {a b : UInt64} {s t : Bool} {c d : Nat} {q r : Int} (ea : val64 a = .fin s c q) (eb : val64 b = .fin t d r) (hd : d ≠ 0) : val64 (ddiv a b) = roundRatio b64 (s != t) c d (q - r) := by
  rw [val64_ddiv, ea, eb]
  simp [quotient, hd]
theorem div_mag_le {a b V : UInt64} (ha : DFin a) (hb : DFin b) (hz : zmag b64 (val64 b) ≠ 0) (hV : val64 V ≠ .nan) (h : zmag b64 (val64 a) * one64 ≤ zmag b64 (val64 V) * zmag b64 (val64 b)) : zmag b64 (val64 (ddiv a b)) ≤ zmag b64 (val64 V) := by
  obtain ⟨s, c, q, ea⟩ := ha
  obtain ⟨t, d, r, eb⟩ := hb
  have fa := val64_fits a; have fb := val64_fits b
  rw [ea] at fa; rw [eb] at fb
  have za : zmag b64 (val64 a) = c * 2 ^ (q - b64.qmin).toNat := by rw [ea]; rfl
  have zb : zmag b64 (val64 b) = d * 2 ^ (r - b64.qmin).toNat := by rw [eb]; rfl
  have hd : d ≠ 0 := fun q => hz (by rw [zb, q, Nat.zero_mul])
  rw [div_val ea eb hd]
  have hp := div_pows (e0 := min b64.qmin (q - r)) fa.2.1 fb.2.1 (by omega) (by omega)
  refine zmag_roundRatio_le good_b64 (Nat.pos_of_ne_zero hd) (val64_fits V) hV (e0 := min b64.qmin (q - r)) (by omega) (by omega) ?_
  rw [za, zb] at h
  generalize zmag b64 (val64 V) = v at h ⊢
  unfold inUnits
  refine Nat.le_of_mul_le_mul_right (c := 2 ^ (r - b64.qmin).toNat) ?_ (Nat.two_pow_pos _)
  rw [Nat.mul_assoc, hp]
  have := Nat.mul_le_mul_right (2 ^ (b64.qmin - min b64.qmin (q - r)).toNat) h
  calc c * (2 ^ (q - b64.qmin).toNat * one64 * 2 ^ (b64.qmin - min b64.qmin (q - r)).toNat) = c * 2 ^ (q - b64.qmin).toNat * one64 * 2 ^ (b64.qmin - min b64.qmin (q - r)).toNat := by (generalize one64 = U; ac_rfl)
    _ ≤ _ := this
    _ = v * 2 ^ (b64.qmin - min b64.qmin (q - r)).toNat * d * 2 ^ (r - b64.qmin).toNat := by (generalize one64 = U; ac_rfl)
theorem div_mag_ge {a b V : UInt64} (ha : DFin a) (hb : DFin b) (hz : zmag b64 (val64 b) ≠ 0) (hV : val64 V ≠ .nan) (h : zmag b64 (val64 V) * zmag b64 (val64 b) ≤ zmag b64 (val64 a) * one64) : zmag b64 (val64 V) ≤ zmag b64 (val64 (ddiv a b)) := by
  obtain ⟨s, c, q, ea⟩ := ha
  obtain ⟨t, d, r, eb⟩ := hb
  have fa := val64_fits a; have fb := val64_fits b
  rw [ea] at fa; rw [eb] at fb
  have za : zmag b64 (val64 a) = c * 2 ^ (q - b64.qmin).toNat := by rw [ea]; rfl
  have zb : zmag b64 (val64 b) = d * 2 ^ (r - b64.qmin).toNat := by rw [eb]; rfl
  have hd : d ≠ 0 := fun q => hz (by rw [zb, q, Nat.zero_mul])
  rw [div_val ea eb hd]
  have hp := div_pows (e0 := min b64.qmin (q - r)) fa.2.1 fb.2.1 (by omega) (by omega)
  refine zmag_roundRatio_ge good_b64 (Nat.pos_of_ne_zero hd) (val64_fits V) (e0 := min b64.qmin (q - r)) (by omega) (by omega) ?_
  rw [za, zb] at h
  generalize zmag b64 (val64 V) = v at h ⊢
  unfold inUnits
  refine Nat.le_of_mul_le_mul_right (c := 2 ^ (r - b64.qmin).toNat) ?_ (Nat.two_pow_pos _)
  rw [Nat.mul_assoc c, hp]
  have := Nat.mul_le_mul_right (2 ^ (b64.qmin - min b64.qmin (q - r)).toNat) h
  calc v * 2 ^ (b64.qmin - min b64.qmin (q - r)).toNat * d * 2 ^ (r - b64.qmin).toNat = v * (d * 2 ^ (r - b64.qmin).toNat) * 2 ^ (b64.qmin - min b64.qmin (q - r)).toNat := by (generalize one64 = U; ac_rfl)
    _ ≤ _ := this
    _ = c * (2 ^ (q - b64.qmin).toNat * one64 * 2 ^ (b64.qmin - min b64.qmin (q - r)).toNat) := by (generalize one64 = U; ac_rfl)
theorem div_sgn {a b : UInt64} (ha : DFin a) (hb : DFin b) (hz : zmag b64 (val64 b) ≠ 0) : sgn (val64 (ddiv a b)) = (sgn (val64 a) != sgn (val64 b)) := by
  obtain ⟨s, c, q, ea⟩ := ha
  obtain ⟨t, d, r, eb⟩ := hb
  have zb : zmag b64 (val64 b) = d * 2 ^ (r - b64.qmin).toNat := by rw [eb]; rfl
  have hd : d ≠ 0 := fun q => hz (by rw [zb, q, Nat.zero_mul])
  rw [div_val ea eb hd, sgn_roundRatio, ea, eb]; rfl
theorem zv_cases (a : UInt64) : (sgn (val64 a) = false ∧ zv a = (zmag b64 (val64 a) : Int)) ∨ (sgn (val64 a) = true ∧ zv a = -(zmag b64 (val64 a) : Int)) := by
  show (_ ∧ signed _ _ = _) ∨ (_ ∧ signed _ _ = _)
  cases sgn (val64 a) <;> simp [signed]
theorem nat_mul_le {a b c d : Nat} (h : (a : Int) * (b : Int) ≤ (c : Int) * (d : Int)) : a * b ≤ c * d := by
  rw [← Int.natCast_mul, ← Int.natCast_mul] at h; exact Int.ofNat_le.mp h
theorem div_le {a b V : UInt64} (ha : DFin a) (hb : DFin b) (hp : 0 < zv b) (hV : val64 V ≠ .nan) (h : zv a * (one64 : Int) ≤ zv V * zv b) : zv (ddiv a b) ≤ zv V := by
  have ub := zv_bd b
  have hz : zmag b64 (val64 b) ≠ 0 := by omega
  have eb : sgn (val64 b) = false ∧ zv b = (zmag b64 (val64 b) : Int) := by rcases zv_cases b with q | q; exact q; omega
  have es := div_sgn ha hb hz
  rw [eb.1] at es
  have hU := U_pos
  rcases zv_cases a with ⟨sa, ea⟩ | ⟨sa, ea⟩ <;> rw [sa] at es
  · have er : zv (ddiv a b) = (zmag b64 (val64 (ddiv a b)) : Int) := by rcases zv_cases (ddiv a b) with q | q; exact q.2; rw [q.1] at es; cases es
    rcases zv_cases V with ⟨sv, ev⟩ | ⟨sv, ev⟩
    · have := div_mag_le ha hb hz hV (nat_mul_le (by rw [← ea, ← ev, ← eb.2]; exact h))
      omega
    · have h0 : 0 ≤ zv a * (one64 : Int) := Int.mul_nonneg (by omega) (by omega)
      have h1 : 0 ≤ zv V * zv b := Int.le_trans h0 h
      have h2 : zv V = 0 := by
        by_cases q : zv V < 0
        · have := Int.mul_neg_of_neg_of_pos q hp; omega
        · omega
      have h3 : zmag b64 (val64 V) = 0 := by omega
      rw [h2, Int.zero_mul] at h
      have h5 : zmag b64 (val64 a) * one64 ≤ zmag b64 (val64 V) * zmag b64 (val64 b) := nat_mul_le (by rw [← ea, h3]; simpa using h)
      have := div_mag_le ha hb hz hV h5
      omega
  · have er : zv (ddiv a b) = -(zmag b64 (val64 (ddiv a b)) : Int) := by rcases zv_cases (ddiv a b) with q | q; rw [q.1] at es; cases es; exact q.2
    rcases zv_cases V with ⟨sv, ev⟩ | ⟨sv, ev⟩
    · omega
    · have := div_mag_ge ha hb hz hV (nat_mul_le (by
        have : zv V * zv b = -((zmag b64 (val64 V) : Int) * (zmag b64 (val64 b) : Int)) := by rw [ev, eb.2, Int.neg_mul]
        have h6 : zv a * (one64 : Int) = -((zmag b64 (val64 a) : Int) * (one64 : Int)) := by rw [ea, Int.neg_mul]
        omega))
      omega
theorem div_ge {a b V : UInt64} (ha : DFin a) (hb : DFin b) (hp : 0 < zv b) (hV : val64 V ≠ .nan) (h : zv V * zv b ≤ zv a * (one64 : Int)) : zv V ≤ zv (ddiv a b) := by
  have ub := zv_bd b
  have hz : zmag b64 (val64 b) ≠ 0 := by omega
  have eb : sgn (val64 b) = false ∧ zv b = (zmag b64 (val64 b) : Int) := by rcases zv_cases b with q | q; exact q; omega
  have es := div_sgn ha hb hz
  rw [eb.1] at es
  have hU := U_pos
  rcases zv_cases a with ⟨sa, ea⟩ | ⟨sa, ea⟩ <;> rw [sa] at es
  · have er : zv (ddiv a b) = (zmag b64 (val64 (ddiv a b)) : Int) := by rcases zv_cases (ddiv a b) with q | q; exact q.2; rw [q.1] at es; cases es
    rcases zv_cases V with ⟨sv, ev⟩ | ⟨sv, ev⟩
    · have := div_mag_ge ha hb hz hV (nat_mul_le (by rw [← ea, ← ev, ← eb.2]; exact h))
      omega
    · omega
  · have er : zv (ddiv a b) = -(zmag b64 (val64 (ddiv a b)) : Int) := by rcases zv_cases (ddiv a b) with q | q; rw [q.1] at es; cases es; exact q.2
    rcases zv_cases V with ⟨sv, ev⟩ | ⟨sv, ev⟩
    · have h0 : zv a * (one64 : Int) ≤ 0 := Int.mul_nonpos_of_nonpos_of_nonneg (by omega) (by omega)
      have h1 : zv V * zv b ≤ 0 := Int.le_trans h h0
      have h2 : zv V = 0 := by
        by_cases q : 0 < zv V
        · have := Int.mul_pos q hp; omega
        · omega
      have h3 : zmag b64 (val64 V) = 0 := by omega
      rw [h2, Int.zero_mul] at h
      have h4 : (zmag b64 (val64 a) : Int) * (one64 : Int) = -(zv a * (one64 : Int)) := by rw [ea, Int.neg_mul, Int.neg_neg]
      have h5 : zmag b64 (val64 a) * one64 ≤ zmag b64 (val64 V) * zmag b64 (val64 b) := nat_mul_le (by rw [h4, h3]; simp; omega)
      have := div_mag_le ha hb hz hV h5
      omega
    · have := div_mag_le ha hb hz hV (nat_mul_le (by
        have : zv V * zv b = -((zmag b64 (val64 V) : Int) * (zmag b64 (val64 b) : Int)) := by rw [ev, eb.2, Int.neg_mul]
        have h6 : zv a * (one64 : Int) = -((zmag b64 (val64 a) : Int) * (one64 : Int)) := by rw [ea, Int.neg_mul]
        omega))
      omega
theorem Dy.pos {m : Int} {j : Nat} {b : UInt64} (hb : Dy m j b) (hm : 0 < m) : 0 < zv b := by
  have h1 : 0 < zv b * 2 ^ j := by rw [hb.2]; exact Int.mul_pos hm U_pos
  exact Int.pos_of_mul_pos_left h1 (two_pos j)
theorem div_le_dy {n m q : Int} {k j i : Nat} {a b : UInt64} (ha : Dy n k a) (hb : Dy m j b) (hm : 0 < m) (hi : i ≤ 1074) (hq : q.natAbs < 2 ^ 53) (h : n * 2 ^ j * 2 ^ i ≤ q * m * 2 ^ k) : zv (ddiv a b) * 2 ^ i ≤ q * (one64 : Int) := by
  obtain ⟨V, hV, e⟩ := rep_exists q i hi hq
  rw [← e]
  refine Int.mul_le_mul_of_nonneg_right (div_le ha.1 hb.1 (hb.pos hm) hV.ne_nan ?_) (Int.le_of_lt (two_pos i))
  have hU := U_pos
  refine Int.le_of_mul_le_mul_right (a := 2 ^ k * 2 ^ j * 2 ^ i) ?_ (Int.mul_pos (Int.mul_pos (two_pos k) (two_pos j)) (two_pos i))
  have e1 : zv a * (one64 : Int) * (2 ^ k * 2 ^ j * 2 ^ i) = n * 2 ^ j * 2 ^ i * ((one64 : Int) * (one64 : Int)) := by
    rw [show zv a * (one64 : Int) * (2 ^ k * 2 ^ j * 2 ^ i) = zv a * 2 ^ k * ((one64 : Int) * 2 ^ j * 2 ^ i) by (generalize one64 = U; ac_rfl), ha.2]; (generalize one64 = U; ac_rfl)
  have e2 : zv V * zv b * (2 ^ k * 2 ^ j * 2 ^ i) = q * m * 2 ^ k * ((one64 : Int) * (one64 : Int)) := by
    rw [show zv V * zv b * (2 ^ k * 2 ^ j * 2 ^ i) = (zv V * 2 ^ i) * (zv b * 2 ^ j) * 2 ^ k by (generalize one64 = U; ac_rfl), e, hb.2]; (generalize one64 = U; ac_rfl)
  rw [e1, e2]
  exact Int.mul_le_mul_of_nonneg_right h (Int.le_of_lt (Int.mul_pos hU hU))
theorem div_ge_dy {n m q : Int} {k j i : Nat} {a b : UInt64} (ha : Dy n k a) (hb : Dy m j b) (hm : 0 < m) (hi : i ≤ 1074) (hq : q.natAbs < 2 ^ 53) (h : q * m * 2 ^ k ≤ n * 2 ^ j * 2 ^ i) : q * (one64 : Int) ≤ zv (ddiv a b) * 2 ^ i := by
  obtain ⟨V, hV, e⟩ := rep_exists q i hi hq
  rw [← e]
  refine Int.mul_le_mul_of_nonneg_right (div_ge ha.1 hb.1 (hb.pos hm) hV.ne_nan ?_) (Int.le_of_lt (two_pos i))
  have hU := U_pos
  refine Int.le_of_mul_le_mul_right (a := 2 ^ k * 2 ^ j * 2 ^ i) ?_ (Int.mul_pos (Int.mul_pos (two_pos k) (two_pos j)) (two_pos i))
  have e1 : zv a * (one64 : Int) * (2 ^ k * 2 ^ j * 2 ^ i) = n * 2 ^ j * 2 ^ i * ((one64 : Int) * (one64 : Int)) := by
    rw [show zv a * (one64 : Int) * (2 ^ k * 2 ^ j * 2 ^ i) = zv a * 2 ^ k * ((one64 : Int) * 2 ^ j * 2 ^ i) by (generalize one64 = U; ac_rfl), ha.2]; (generalize one64 = U; ac_rfl)
  have e2 : zv V * zv b * (2 ^ k * 2 ^ j * 2 ^ i) = q * m * 2 ^ k * ((one64 : Int) * (one64 : Int)) := by
    rw [show zv V * zv b * (2 ^ k * 2 ^ j * 2 ^ i) = (zv V * 2 ^ i) * (zv b * 2 ^ j) * 2 ^ k by (generalize one64 = U; ac_rfl), e, hb.2]; (generalize one64 = U; ac_rfl)
  rw [e1, e2]
  exact Int.mul_le_mul_of_nonneg_right h (Int.le_of_lt (Int.mul_pos hU hU))
theorem dy_div {n m q : Int} {k j i : Nat} {a b : UInt64} (ha : Dy n k a) (hb : Dy m j b) (hm : 0 < m) (hi : i ≤ 1074) (hq : q.natAbs < 2 ^ 53) (h : n * 2 ^ j * 2 ^ i = q * m * 2 ^ k) : Dy q i (ddiv a b) := by
  have h1 := div_le_dy ha hb hm hi hq (Int.le_of_eq h)
  have h2 := div_ge_dy ha hb hm hi hq (Int.le_of_eq h.symm)
  have h3 := Int.le_antisymm h1 h2
  obtain ⟨V, hV, e⟩ := rep_exists q i hi hq
  have h4 : zv (ddiv a b) = zv V := cancel (h3.trans e.symm)
  exact ⟨fin_between hV hV (div_nn ha.1 hb.1 (Int.ne_of_gt (hb.pos hm))) (Int.le_of_eq h4.symm) (Int.le_of_eq h4), h3⟩
-- comparisons
theorem cmp_dy {n m : Int} {k j : Nat} {a b : UInt64} (ha : Dy n k a) (hb : Dy m j b) : Jvm.FP.dcmp a b = some (compare (n * 2 ^ j) (m * 2 ^ k)) := by
  show dcmp a b = _
  rw [dcmp_zval ha.nn hb.nn]
  congr 1
  have hU := U_pos
  have e1 : zv a * (2 ^ k * 2 ^ j) = n * 2 ^ j * (one64 : Int) := by rw [← Int.mul_assoc, ha.2]; (generalize one64 = U; ac_rfl)
  have e2 : zv b * (2 ^ k * 2 ^ j) = m * 2 ^ k * (one64 : Int) := by rw [show zv b * (2 ^ k * 2 ^ j) = zv b * 2 ^ j * 2 ^ k by (generalize one64 = U; ac_rfl), hb.2]; (generalize one64 = U; ac_rfl)
  rw [← compare_mul_pos (zv a) (zv b) (2 ^ k * 2 ^ j) (Int.mul_pos (two_pos k) (two_pos j)), e1, e2, compare_mul_pos _ _ _ hU]
theorem cmp_dy0 {n m : Int} {k : Nat} {a b : UInt64} (ha : Dy n k a) (hb : Dy m k b) : Jvm.FP.dcmp a b = some (compare n m) := by
  rw [cmp_dy ha hb, compare_mul_pos _ _ _ (two_pos k)]
theorem cmp_lt {a b : UInt64} (ha : val64 a ≠ .nan) (hb : val64 b ≠ .nan) (h : zv a < zv b) : Jvm.FP.dcmp a b = some .lt := dcmp_lt.mpr ⟨ha, hb, h⟩
theorem cmp_eq {a b : UInt64} (ha : val64 a ≠ .nan) (hb : val64 b ≠ .nan) (h : zv a = zv b) : Jvm.FP.dcmp a b = some .eq := dcmp_eq.mpr ⟨ha, hb, h⟩
theorem cmp_gt {a b : UInt64} (ha : val64 a ≠ .nan) (hb : val64 b ≠ .nan) (h : zv b < zv a) : Jvm.FP.dcmp a b = some .gt := dcmp_gt.mpr ⟨ha, hb, h⟩
open Jvm.Op in
theorem cv_lt_g (r : Option Ordering) : cmpValue r .g < 0 ↔ r = some .lt := by rcases r with _ | (_ | _ | _) <;> decide
open Jvm.Op in
theorem cv_lt_l (r : Option Ordering) : cmpValue r .l < 0 ↔ r = some .lt ∨ r = none := by rcases r with _ | (_ | _ | _) <;> decide
open Jvm.Op in
theorem cv_gt_g (r : Option Ordering) : 0 < cmpValue r .g ↔ r = some .gt ∨ r = none := by rcases r with _ | (_ | _ | _) <;> decide
open Jvm.Op in
theorem cv_gt_l (r : Option Ordering) : 0 < cmpValue r .l ↔ r = some .gt := by rcases r with _ | (_ | _ | _) <;> decide
open Jvm.Op in
theorem cv_eq (r : Option Ordering) (o : Jvm.ClassFile.CmpOp) : cmpValue r o = 0 ↔ r = some .eq := by cases o <;> rcases r with _ | (_ | _ | _) <;> decide
theorem nn64 {a : UInt64} (h : DFin a) : Jvm.Free.Fl.NoNaN64 a := Jvm.Free.Fl.val64_no.mpr h.ne_nan
theorem nnv {a : UInt64} (h : val64 a ≠ .nan) : Jvm.Free.Fl.NoNaN64 a := Jvm.Free.Fl.val64_no.mpr h
theorem nn_v {a : UInt64} (h : Jvm.Free.Fl.NoNaN64 a) : val64 a ≠ .nan := Jvm.Free.Fl.val64_no.mp h
end Jvm.OwnFP
namespace Jvm.OwnKit
open Jvm Jvm.ClassFile Sem Op Lib Jvm.Free Jvm.Stand Jvm.LawKit Jvm.RoadKit
theorem eqF_int {Z : State} {args : Array Value} {t : Term} {C n d : String} {x : Addr} {k : Int32} (ev : t.eval args Z none [] Z = some (.ref x)) (h : (Jvm.Cond.eq (Term.field t C n d) (Term.int k)).value args Z none Z [] = some true) : Fld Z Z.heap x C n d (.int k) := by
  obtain ⟨u, w, h1, h2, -, h4⟩ := cmp_v (Or.inl h)
  have e2 : (Term.int k).eval args Z none [] Z = some (.int k) := Term.int_eval k
  cases e2.symm.trans h2
  obtain ⟨z, rfl⟩ := h4
  have hz : z = k := by simpa [Cond.value, h1, e2] using h
  subst hz
  exact Fld.start (by rw [← fld_at ev]; exact h1)
theorem eqF_dbl {Z : State} {args : Array Value} {t : Term} {C n d : String} {x : Addr} {k : Int64} {b : UInt64} (ev : t.eval args Z none [] Z = some (.ref x)) (h : (Jvm.Cond.eq (Term.field t C n d) (Term.op1 Jvm.Unary.bitsD (Term.long k))).value args Z none Z [] = some true) (hb : k.toUInt64 = b) : Fld Z Z.heap x C n d (.double b) := by
  obtain ⟨u, w, h1, h2, -, h4⟩ := cmp_v (Or.inl h)
  have e2 : (Term.op1 Jvm.Unary.bitsD (Term.long k)).eval args Z none [] Z = some (.double k.toUInt64) := by simp [Term.eval, Jvm.Unary.apply]
  cases e2.symm.trans h2
  obtain ⟨z, rfl⟩ := h4
  have hz : z = k.toUInt64 := by simpa [Cond.value, h1, e2] using h
  subst hz; subst hb
  exact Fld.start (by rw [← fld_at ev]; exact h1)
theorem eqS_int {Z : State} {args : Array Value} {C n d : String} {k : Int32} (h : (Jvm.Cond.eq (Term.static C n d) (Term.int k)).value args Z none Z [] = some true) : (Term.static C n d).eval args Z none [] Z = some (.int k) := by
  obtain ⟨u, w, h1, h2, -, h4⟩ := cmp_v (Or.inl h)
  have e2 : (Term.int k).eval args Z none [] Z = some (.int k) := Term.int_eval k
  cases e2.symm.trans h2
  obtain ⟨z, rfl⟩ := h4
  have hz : z = k := by simpa [Cond.value, h1, e2] using h
  subst hz
  exact h1
theorem staKeep {Z : State} {h h' : Heap} {C n d : String} {v : Value} {ws : List Addr} (F : Sta Z h C n d v) (K : Keep h h' ws) (q : ∀ x ∈ ws, ∃ c : Cell, h[x]? = some c ∧ c.vm.isStatics = false) : Sta Z h' C n d v := by
  obtain ⟨cf, i, k, f, st, cell, h1, h2, h3, h4, h5, h6, h7⟩ := F
  refine ⟨cf, i, k, f, st, cell, h1, h2, h3, h4, K.2.1 st cell h5 fun hm => ?_, h6, h7⟩
  obtain ⟨c, e1, e2⟩ := q st hm
  cases h5.symm.trans e1
  rw [e2] at h6; cases h6
theorem exaSt {Z : State} {h : Heap} {a : Addr} {C : String} (F : Exa Z h a C) : ∃ c : Cell, h[a]? = some c ∧ c.vm.isStatics = false := by
  obtain ⟨c, _, h1, -, -, h4, -⟩ := F; exact ⟨c, h1, h4⟩
theorem arvSt {Z : State} {h : Heap} {a : Addr} {k : ClassId} {ty : FieldType} {z : Int32} {vs : List Value} {dv : Value} (F : Arv Z h a k ty z vs dv) : ∃ c : Cell, h[a]? = some c ∧ c.vm.isStatics = false := by
  obtain ⟨c, A, -⟩ := F; exact ⟨c, A.1, A.plain⟩
theorem narB0 : nar .boolean 0 = 0 := by decide
theorem narB1 : nar .boolean 1 = 1 := by decide
end Jvm.OwnKit
namespace Jvm.Pilot.@@N@@
open Jvm Jvm.ClassFile Sem Op Lib Jvm.Free Jvm.Stand Jvm.LawKit Jvm.RoadKit Bundle Jvm.OwnFP Jvm.OwnKit Jvm.Pilot.@@N@@.Jvm.D
theorem own_1024 : Dy 1024 0 4652218415073722368 := by
  have := dy_i2d 1024
  rw [show Jvm.FP.Core.i2d 1024 = 4652218415073722368 by decide +kernel] at this; exact this
theorem own_max1 (m : Int32) : ¬ ((if (1 : Int32) < m then m else 1) < (1 : Int32)) := by
  by_cases h : (1 : Int32) < m
  · rw [if_pos h]; exact fun q => absurd (Int32.lt_trans h q) Int32.lt_irrefl
  · rw [if_neg h]; decide
theorem own_nz {a : Int32} (h : ¬ a = 0) : a.toInt ≠ 0 := fun q => h (Int32.toInt_inj.mp (by rw [q]; rfl))
theorem own_gt0 {n : Int} {k : Nat} {a : UInt64} (h : Dy n k a) (hn : 0 < n) : FP.dcmp a 0 = some .gt := by
  rw [cmp_dy h dy_zero, Option.some.injEq, Jvm.FP.Core.compare_gt_iff]; simpa using hn
theorem own_eq0 {k : Nat} {a : UInt64} (h : Dy 0 k a) : ¬ FP.dcmp a 0 = some .gt := by
  rw [cmp_dy h dy_zero, Option.some.injEq, Jvm.FP.Core.compare_gt_iff]; simp
theorem own_m31 (n : Int32) : 0 ≤ (n &&& 2147483647).toInt := by
  have h := c_mask n 2147483647 31 (by decide) (by decide); rw [h]; exact Int.emod_nonneg _ (by decide)
theorem own_m31_pos {n : Int32} (h : ¬ (n &&& 2147483647) = 0) : 0 < (n &&& 2147483647).toInt := by have := own_m31 n; have := own_nz h; omega
theorem own_or1 (n : Int32) : 1 ≤ ((n &&& 2147483647) ||| 1).toInt := by
  have h0 : ((n &&& 2147483647) ||| 1).toBitVec.msb = false := by
    rw [Int32.toBitVec_or, Int32.toBitVec_and, BitVec.msb_or, BitVec.msb_and]
    have e1 : (2147483647 : Int32).toBitVec.msb = false := by decide
    have e2 : (1 : Int32).toBitVec.msb = false := by decide
    rw [e1, e2]; simp
  have h1 : ((n &&& 2147483647) ||| 1).toInt = (((n &&& 2147483647) ||| 1).toBitVec.toNat : Int) := by
    show (((n &&& 2147483647) ||| 1).toBitVec).toInt = _
    exact BitVec.toInt_eq_toNat_of_msb h0
  rw [h1, Int32.toBitVec_or, BitVec.toNat_or]
  have : (1 : Int32).toBitVec.toNat ≤ (n &&& 2147483647).toBitVec.toNat ||| (1 : Int32).toBitVec.toNat := Nat.right_le_or
  have e : (1 : Int32).toBitVec.toNat = 1 := by decide
  omega
theorem own_den (d : Int32) : 2 ≤ ((d &&& 65535) + 2).toInt ∧ ((d &&& 65535) + 2).toInt ≤ 65537 := by
  have h := c_mask d 65535 16 (by decide) (by decide)
  have c := c_iadd (d &&& 65535) 2; have r := rng32 ((d &&& 65535) + 2)
  have e : (2 : Int32).toInt = 2 := by decide
  rw [h, e] at c
  have e2 : ((2 ^ 16 : Nat) : Int) = 65536 := by decide
  rw [e2] at c; omega
theorem own_quo_nn (n d : Int32) : Jvm.Free.Fl.NoNaN64 (FP.ddiv (FP.i2d ((n &&& 2147483647) ||| 1)) (FP.i2d ((d &&& 65535) + 2))) :=
  nnv (div_nn (dy_i2d _).1 (dy_i2d _).1 (Int.ne_of_gt ((dy_i2d _).pos (by have := own_den d; omega))))
theorem own_quo_gt (n d : Int32) : FP.dcmp (FP.ddiv (FP.i2d ((n &&& 2147483647) ||| 1)) (FP.i2d ((d &&& 65535) + 2))) 0 = some .gt := by
  have h1 := own_or1 n; have h2 := own_den d
  have := div_ge_dy (q := 1) (i := 17) (dy_i2d ((n &&& 2147483647) ||| 1)) (dy_i2d ((d &&& 65535) + 2)) (by omega) (by decide) (by decide) (by simp only [Int.pow_zero, Int.mul_one, show (2 : Int) ^ 17 = 131072 by decide]; omega)
  refine cmp_gt (nn_v (own_quo_nn n d)) dy_zero.nn ?_
  rw [show zv 0 = 0 from Jvm.FP.Core.zval64_zero]
  have hU := U_pos
  rw [show (2 : Int) ^ 17 = 131072 by decide] at this
  have h' : (1 : Int) * (Jvm.FP.Core.one64 : Int) ≤ zv (FP.ddiv (FP.i2d ((n &&& 2147483647) ||| 1)) (FP.i2d ((d &&& 65535) + 2))) * 131072 := this
  omega
theorem own_k (n : Int32) : Dy (n &&& 255).toInt 10 (FP.ddiv (FP.i2d (n &&& 255)) 4652218415073722368) := by
  have r := rng32 (n &&& 255)
  exact dy_div (dy_i2d _) own_1024 (by decide) (by decide) (by omega) (by simp only [Int.pow_zero, Int.mul_one, show (2 : Int) ^ 10 = 1024 by decide])
theorem own_k_pos {n : Int32} (h : ¬ (n &&& 255) = 0) : 0 < (n &&& 255).toInt := by
  have h2 := c_mask n 255 8 (by decide) (by decide)
  have := own_nz h
  have : 0 ≤ (n &&& 255).toInt := by rw [h2]; exact Int.emod_nonneg _ (by decide)
  omega
theorem own_l_gt {k : Int64} (h : 0 < k.toInt) : FP.dcmp (FP.l2d k) 0 = some .gt := by
  have e1 : zv 4607182418800017408 = (Jvm.FP.Core.one64 : Int) := by have := dy_one.2; simpa using this
  have hU := U_pos
  have h2 : zv 4607182418800017408 ≤ k.toInt * (Jvm.FP.Core.one64 : Int) := by
    rw [e1]; have := Int.mul_le_mul_of_nonneg_right (show (1 : Int) ≤ k.toInt by omega) (Int.le_of_lt hU); omega
  have := Jvm.FP.Core.l2d_zval_ge dy_one.nn h2
  refine cmp_gt (Jvm.FP.Core.l2d_fin k).ne_nan dy_zero.nn ?_
  rw [show zv 0 = 0 from Jvm.FP.Core.zval64_zero]
  have : zv 4607182418800017408 ≤ zv (FP.l2d k) := this
  omega
theorem own_ml (k : Int64) : 0 ≤ (k &&& 9223372036854775807).toInt := by
  have h := c_maskL k 9223372036854775807 63 (by decide) (by decide); rw [h]; exact Int.emod_nonneg _ (by decide)
theorem own_ml_pos {k : Int64} (h : ¬ (k &&& 9223372036854775807) = 0) : 0 < (k &&& 9223372036854775807).toInt := by
  have := own_ml k
  have : (k &&& 9223372036854775807).toInt ≠ 0 := fun q => h (Int64.toInt_inj.mp (by rw [q]; rfl))
  omega
theorem own_z32 {a : Int32} (h : a = 0) : Dy 0 0 (FP.i2d a) := by have := dy_i2d a; rw [h] at this ⊢; exact this
theorem own_z64 {a : Int64} (h : a = 0) : Dy 0 0 (FP.l2d a) := by
  rw [h]; exact dy_l2d (a := 0) (by decide)
theorem own_zk {n : Int32} (h : (n &&& 255) = 0) : Dy 0 10 (FP.ddiv (FP.i2d (n &&& 255)) 4652218415073722368) := by have := own_k n; rw [h] at this ⊢; exact this
theorem own_yes {r ld : UInt64} {s1 : Int32} (h : r = if FP.dcmp ld 0 = some .gt then FP.i2d s1 else 0) (g : FP.dcmp ld 0 = some .gt) : cmpValue (FP.dcmp r (FP.i2d s1)) .l = 0 := by
  rw [h, if_pos g]; exact (cv_eq _ _).mpr (Jvm.FP.Core.dcmp_self (dy_i2d s1).nn)
theorem own_no {r ld : UInt64} {s1 : Int32} (h : r = if FP.dcmp ld 0 = some .gt then FP.i2d s1 else 0) (g : ¬ FP.dcmp ld 0 = some .gt) : cmpValue (FP.dcmp r 0) .l = 0 := by
  rw [h, if_neg g]; exact (cv_eq _ _).mpr (Jvm.FP.Core.dcmp_self dy_zero.nn)
theorem ef_rmMax (m : MethodId) (x0 : Int32) (x1 : Int32) : entryFrame m #[(.int x0), (.int x1)] 2 = mkF m 0 #[.val (.int x0), .val (.int x1)] [] := by first | (simp [entryFrame, mkF, argsToLocals, Value.category]; done) | rfl
theorem d1_0 : decode jdk_29_method_65_code 0 = .ok (.iload_n 0, 1) := by decide +kernel
theorem d1_1 : decode jdk_29_method_65_code 1 = .ok (.iload_n 1, 1) := by decide +kernel
theorem d1_2 : decode jdk_29_method_65_code 2 = .ok (.if_icmp .lt 7, 3) := by decide +kernel
theorem d1_9 : decode jdk_29_method_65_code 9 = .ok (.iload_n 1, 1) := by decide +kernel
theorem d1_10 : decode jdk_29_method_65_code 10 = .ok (.ireturn, 1) := by decide +kernel
theorem d1_5 : decode jdk_29_method_65_code 5 = .ok (.iload_n 0, 1) := by decide +kernel
theorem d1_6 : decode jdk_29_method_65_code 6 = .ok (.goto 4, 3) := by decide +kernel
def QrmMax (Z : State) (p0 : Int32) (p1 : Int32) (h0 : Heap) (n0 : Nat) (v : Option Value) (h : Heap) (L : List Loc) : Prop := v = some (.int (if p0 < p1 then p1 else p0)) ∧ Fr n0 L ∧ h = h0
set_option maxRecDepth 65536 in
set_option maxHeartbeats 40000000 in
theorem rmMax (l : Launch) (Z : State) (a0 : Array Value) (hw : ∀ d ∈ tables_1, d.before a0 Z = true) (ws : List Jvm.Cond) (p0 : Int32) (p1 : Int32) (h0 : Heap) (n0 : Nat) (Z0 : n0 ≤ h0.size) :
    MetFree l (⟨"java/lang/Math", "max", "(II)I"⟩ : MethodName) (head1 (Jvm.Cond.code (⟨"java/lang/Math", "max", "(II)I"⟩ : MethodName) jdk_29_method_65_code 2 (some .int) :: ws) ({ frames := 0, cells := 0, slots := 0, locals := 0 } : Room)) (fun a U => a = #[(.int p0), (.int p1)] ∧ Z.Warmed39 U.vm ∧ U.heap = h0) (fun _ _ _ _ _ => True) (fun _ U o U' => ∃ v L, o = .returned v ∧ QrmMax Z p0 p1 h0 n0 v U'.heap L ∧ FrameEnd U o U' L ({ frames := 0, cells := 0, slots := 0, locals := 0 } : Room).cells ({ frames := 0, cells := 0, slots := 0, locals := 0 } : Room).slots) := by
  refine MetFree.of_bodySF (Jvm.Free.JP.mathPlain rfl (by decide +kernel)) hisR ?_
  intro p e s m args below meth c s₁ Bd hml0 hP hK
  obtain ⟨rfl, hZ, hh⟩ := hP
  have hx := Bd.exec
  have hby := Bd.bytes
  have hml : c.maxLocals = 2 := hml0
  have hown : s.vm.findClass "java/lang/Math" = some m.cls := findClass_of_methodNamed Bd.named
  have hnm := (name_of_methodNamed Bd.named Bd.method).1
  have X0 : Stand p l e ({ frames := 0, cells := 0, slots := 0, locals := 0 } : Room) s m #[(.int p0), (.int p1)] below meth c s₁ [] 0 0 := Stand.of_body Bd
  have e0 : s₁.heap = h0 := by rw [← hh, Bd.state]; rfl
  have N0 := Fr.nil n0
  have pre0 : ∀ t, Steps p.tables e below (s₁.setTop (mkF m 0 #[.val (.int p0), .val (.int p1)] [])) t → Steps p.tables e below (s₁.setTop (entryFrame m #[(.int p0), (.int p1)] 2)) t := fun t k => castTop (ef_rmMax m p0 p1) k
  have a1 : ∀ t, Steps p.tables e below (s₁.setTop (mkF m 2 #[.val (.int p0), .val (.int p1)] [(.int p1), (.int p0)])) t → Steps p.tables e below (s₁.setTop (entryFrame m #[(.int p0), (.int p1)] 2)) t := by
    intro t k
    refine pre0 t ?_
    show Steps p.tables e below (s₁.setTop (mkF m 0 #[.val (.int p0), .val (.int p1)] [])) _
    refine XS.iloadN X0.here hx rfl (hb hby d1_0) rfl ?_
    show Steps p.tables e below (s₁.setTop (mkF m 1 #[.val (.int p0), .val (.int p1)] [(.int p0)])) _
    refine XS.iloadN X0.here hx rfl (hb hby d1_1) rfl ?_
    exact k
  by_cases hc2_2 : p0 < p1
  ·
    have a3 : ∀ t, Steps p.tables e below (s₁.setTop (mkF m 10 #[.val (.int p0), .val (.int p1)] [(.int p1)])) t → Steps p.tables e below (s₁.setTop (entryFrame m #[(.int p0), (.int p1)] 2)) t := by
      intro t k
      refine a1 t ?_
      show Steps p.tables e below (s₁.setTop (mkF m 2 #[.val (.int p0), .val (.int p1)] [(.int p1), (.int p0)])) _
      refine XS.icmpYes X0.here hx rfl (pc0 := 2) (pc' := 9) rfl (hb hby d1_2) rfl (tlt hc2_2).1 (by decide) (by decide) ?_
      show Steps p.tables e below (s₁.setTop (mkF m 9 #[.val (.int p0), .val (.int p1)] [])) _
      refine XS.iloadN X0.here hx rfl (hb hby d1_9) rfl ?_
      exact k
    obtain ⟨fs, hr, hrun, hended, hW, hsame⟩ := X0.leave (v := some (.int p1)) (fun h => by rw [Bd.returns] at h; cases h)
    refine ⟨_, _, a3 _ ?_, hrun, hended, _, _, rfl, ?_, ⟨_, rfl⟩, hW, hsame.mono (by decide) (by decide)⟩
    · show Steps p.tables e below (s₁.setTop (mkF m 10 #[.val (.int p0), .val (.int p1)] [(.int p1)])) _
      exact retOut X0 hx Bd.returns rfl (Or.inl ⟨rfl, Or.inl rfl, _, rfl⟩) (hb hby d1_10) hr
    · show QrmMax Z p0 p1 h0 n0 _ s₁.heap _
      rw [e0]
      exact ⟨by rw [if_pos hc2_2], N0, rfl⟩
  ·
    have a4 : ∀ t, Steps p.tables e below (s₁.setTop (mkF m 10 #[.val (.int p0), .val (.int p1)] [(.int p0)])) t → Steps p.tables e below (s₁.setTop (entryFrame m #[(.int p0), (.int p1)] 2)) t := by
      intro t k
      refine a1 t ?_
      show Steps p.tables e below (s₁.setTop (mkF m 2 #[.val (.int p0), .val (.int p1)] [(.int p1), (.int p0)])) _
      refine XS.icmpNo X0.here hx rfl (hb hby d1_2) rfl (flt hc2_2).1 ?_
      show Steps p.tables e below (s₁.setTop (mkF m 5 #[.val (.int p0), .val (.int p1)] [])) _
      refine XS.iloadN X0.here hx rfl (hb hby d1_5) rfl ?_
      show Steps p.tables e below (s₁.setTop (mkF m 6 #[.val (.int p0), .val (.int p1)] [(.int p0)])) _
      refine XS.goto X0.here hx rfl (pc0 := 6) (pc' := 10) rfl (hb hby d1_6) (by decide) (by decide) ?_
      exact k
    obtain ⟨fs, hr, hrun, hended, hW, hsame⟩ := X0.leave (v := some (.int p0)) (fun h => by rw [Bd.returns] at h; cases h)
    refine ⟨_, _, a4 _ ?_, hrun, hended, _, _, rfl, ?_, ⟨_, rfl⟩, hW, hsame.mono (by decide) (by decide)⟩
    · show Steps p.tables e below (s₁.setTop (mkF m 10 #[.val (.int p0), .val (.int p1)] [(.int p0)])) _
      exact retOut X0 hx Bd.returns rfl (Or.inl ⟨rfl, Or.inl rfl, _, rfl⟩) (hb hby d1_10) hr
    · show QrmMax Z p0 p1 h0 n0 _ s₁.heap _
      rw [e0]
      exact ⟨by rw [if_neg hc2_2], N0, rfl⟩
theorem ef_rmRec (m : MethodId) (x0 : Addr) : entryFrame m #[(.ref x0)] 1 = mkF m 0 #[.val (.ref x0)] [] := by first | (simp [entryFrame, mkF, argsToLocals, Value.category]; done) | rfl
theorem d3_0 : decode jdk_30_method_1_code 0 = .ok (.aload_n 0, 1) := by decide +kernel
theorem d3_1 : decode jdk_30_method_1_code 1 = .ok (.invokespecial 1, 3) := by decide +kernel
theorem d3_4 : decode jdk_30_method_1_code 4 = .ok (.return_, 1) := by decide +kernel
theorem own_pn_java_lang_Record : plainName "java/lang/Record" = true := by first | (simp [plainName, overriddenIn]; done) | decide +kernel
def QRec (Z : State) (a0_ : Addr) (h0 : Heap) (n0 : Nat) (v : Option Value) (h : Heap) (L : List Loc) : Prop := v = none ∧ Fr n0 L ∧ h = h0
set_option maxRecDepth 65536 in
set_option maxHeartbeats 40000000 in
theorem rmRec (l : Launch) (Z : State) (a0 : Array Value) (hw : ∀ d ∈ tables_1, d.before a0 Z = true) (ws : List Jvm.Cond) (a0_ : Addr) (h0 : Heap) (n0 : Nat) (Z0 : n0 ≤ h0.size) :
    MetFree l (⟨"java/lang/Record", "<init>", "()V"⟩ : MethodName) (head1 (Jvm.Cond.code (⟨"java/lang/Record", "<init>", "()V"⟩ : MethodName) jdk_30_method_1_code 1 none :: ws) ({ frames := 1, cells := 0, slots := 0, locals := 12 } : Room)) (fun a U => a = #[(.ref a0_)] ∧ Z.Warmed39 U.vm ∧ U.heap = h0) (fun _ _ _ _ _ => True) (fun _ U o U' => ∃ v L, o = .returned v ∧ QRec Z a0_ h0 n0 v U'.heap L ∧ FrameEnd U o U' L ({ frames := 1, cells := 0, slots := 0, locals := 12 } : Room).cells ({ frames := 1, cells := 0, slots := 0, locals := 12 } : Room).slots) := by
  refine MetFree.of_bodySF (plainFor_of_name own_pn_java_lang_Record) hisR ?_
  intro p e s m args below meth c s₁ Bd hml0 hP hK
  obtain ⟨rfl, hZ, hh⟩ := hP
  have hx := Bd.exec
  have hby := Bd.bytes
  have hml : c.maxLocals = 1 := hml0
  have hown : s.vm.findClass "java/lang/Record" = some m.cls := findClass_of_methodNamed Bd.named
  have hnm := (name_of_methodNamed Bd.named Bd.method).1
  have X0 : Stand p l e ({ frames := 1, cells := 0, slots := 0, locals := 12 } : Room) s m #[(.ref a0_)] below meth c s₁ [] 0 0 := Stand.of_body Bd
  have e0 : s₁.heap = h0 := by rw [← hh, Bd.state]; rfl
  have N0 := Fr.nil n0
  have pre0 : ∀ t, Steps p.tables e below (s₁.setTop (mkF m 0 #[.val (.ref a0_)] [])) t → Steps p.tables e below (s₁.setTop (entryFrame m #[(.ref a0_)] 1)) t := fun t k => castTop (ef_rmRec m a0_) k
  have a1 : ∀ t, Steps p.tables e below (s₁.setTop (mkF m 1 #[.val (.ref a0_)] [(.ref a0_)])) t → Steps p.tables e below (s₁.setTop (entryFrame m #[(.ref a0_)] 1)) t := by
    intro t k
    refine pre0 t ?_
    show Steps p.tables e below (s₁.setTop (mkF m 0 #[.val (.ref a0_)] [])) _
    refine XS.aloadN X0.here hx rfl (hb hby d3_0) rfl rfl ?_
    exact k
  obtain ⟨T2, X2, e2, st2⟩ := initO X0 hx hZ hown (hw _ (List.mem_of_getElem? (i := 16) rfl)) (hw _ (List.mem_of_getElem? (i := 17) rfl)) (hw _ (List.mem_of_getElem? (i := 18) rfl)) e0 (g := (mkF m 1 #[.val (.ref a0_)] [(.ref a0_)])) rfl (by rw [hml]; rfl) rfl (hb hby d3_1) (by decide) (W := 0) (by show 2 * 0 + _ ≤ _; exact Nat.le_of_eq rfl) (by decide)
  have a3 : ∀ t, Steps p.tables e below (T2.setTop (mkF m 4 #[.val (.ref a0_)] [])) t → Steps p.tables e below (s₁.setTop (entryFrame m #[(.ref a0_)] 1)) t := fun t k => a1 t (st2 t k)
  obtain ⟨fs, hr, hrun, hended, hW, hsame⟩ := X2.leave (v := none) (fun _ => rfl)
  refine ⟨_, _, a3 _ ?_, hrun, hended, _, _, rfl, ?_, ⟨_, rfl⟩, hW, hsame.mono (by decide) (by decide)⟩
  · show Steps p.tables e below (T2.setTop (mkF m 4 #[.val (.ref a0_)] [])) _
    exact X2.returnOut hx Bd.returns (hb hby d3_4) hr
  · show QRec Z a0_ h0 n0 _ T2.heap _
    rw [e2]
    exact ⟨rfl, N0, rfl⟩
theorem ef_rm1 (m : MethodId) (x0 : Addr) (x1 : Int32) : entryFrame m #[(.ref x0), (.int x1)] 2 = mkF m 0 #[.val (.ref x0), .val (.int x1)] [] := by first | (simp [entryFrame, mkF, argsToLocals, Value.category]; done) | rfl
theorem d2_0 : decode prog_32_method_1_code 0 = .ok (.aload_n 0, 1) := by decide +kernel
theorem d2_1 : decode prog_32_method_1_code 1 = .ok (.invokespecial 1, 3) := by decide +kernel
theorem own_pd0 : parseMethodDescriptor "()V" = some ⟨[], none⟩ := by decide +kernel
theorem d2_4 : decode prog_32_method_1_code 4 = .ok (.iload_n 1, 1) := by decide +kernel
theorem d2_5 : decode prog_32_method_1_code 5 = .ok (.iconst 1, 1) := by decide +kernel
theorem d2_6 : decode prog_32_method_1_code 6 = .ok (.if_icmp .ge 17, 3) := by decide +kernel
theorem d2_23 : decode prog_32_method_1_code 23 = .ok (.aload_n 0, 1) := by decide +kernel
theorem d2_24 : decode prog_32_method_1_code 24 = .ok (.iload_n 1, 1) := by decide +kernel
theorem d2_25 : decode prog_32_method_1_code 25 = .ok (.putfield 16, 3) := by decide +kernel
theorem d2_28 : decode prog_32_method_1_code 28 = .ok (.return_, 1) := by decide +kernel
theorem own_pn_com_example_placewright_placewright_scheme_Broadcast : plainName "com/example/placewright/placewright/scheme/Broadcast" = true := by first | (simp [plainName, overriddenIn]; done) | decide +kernel
def Qrm1 (Z : State) (a0_ : Addr) (p1 : Int32) (h0 : Heap) (n0 : Nat) (v : Option Value) (h : Heap) (L : List Loc) : Prop := v = none ∧ Fr n0 L ∧ Keep h0 h [a0_] ∧ Fld Z h a0_ "com/example/placewright/placewright/scheme/Broadcast" "streams" "I" (.int p1)
set_option maxRecDepth 65536 in
set_option maxHeartbeats 40000000 in
theorem rm1 (l : Launch) (Z : State) (a0 : Array Value) (hw : ∀ d ∈ tables_1, d.before a0 Z = true) (ws : List Jvm.Cond) (a0_ : Addr) (p1 : Int32) (h0 : Heap) (n0 : Nat) (Z0 : n0 ≤ h0.size) (E0 : Exa Z h0 a0_ "com/example/placewright/placewright/scheme/Broadcast") (g0 : n0 ≤ a0_) (F0_streams : Fld Z h0 a0_ "com/example/placewright/placewright/scheme/Broadcast" "streams" "I" (.int 0)) (hst : ¬ (p1 < (1 : Int32))) :
    MetFree l (⟨"com/example/placewright/placewright/scheme/Broadcast", "<init>", "(I)V"⟩ : MethodName) (head1 (Jvm.Cond.code (⟨"com/example/placewright/placewright/scheme/Broadcast", "<init>", "(I)V"⟩ : MethodName) prog_32_method_1_code 2 none :: ws) ({ frames := 2, cells := 0, slots := 0, locals := 24 } : Room)) (fun a U => a = #[(.ref a0_), (.int p1)] ∧ Z.Warmed39 U.vm ∧ U.heap = h0) (fun _ _ _ _ _ => True) (fun _ U o U' => ∃ v L, o = .returned v ∧ Qrm1 Z a0_ p1 h0 n0 v U'.heap L ∧ FrameEnd U o U' L ({ frames := 2, cells := 0, slots := 0, locals := 24 } : Room).cells ({ frames := 2, cells := 0, slots := 0, locals := 24 } : Room).slots) := by
  refine MetFree.of_bodySF (plainFor_of_name own_pn_com_example_placewright_placewright_scheme_Broadcast) hisR ?_
  intro p e s m args below meth c s₁ Bd hml0 hP hK
  obtain ⟨rfl, hZ, hh⟩ := hP
  have hx := Bd.exec
  have hby := Bd.bytes
  have hml : c.maxLocals = 2 := hml0
  have hown : s.vm.findClass "com/example/placewright/placewright/scheme/Broadcast" = some m.cls := findClass_of_methodNamed Bd.named
  have hnm := (name_of_methodNamed Bd.named Bd.method).1
  have X0 : Stand p l e ({ frames := 2, cells := 0, slots := 0, locals := 24 } : Room) s m #[(.ref a0_), (.int p1)] below meth c s₁ [] 0 0 := Stand.of_body Bd
  have e0 : s₁.heap = h0 := by rw [← hh, Bd.state]; rfl
  have N0 := Fr.nil n0
  have pre0 : ∀ t, Steps p.tables e below (s₁.setTop (mkF m 0 #[.val (.ref a0_), .val (.int p1)] [])) t → Steps p.tables e below (s₁.setTop (entryFrame m #[(.ref a0_), (.int p1)] 2)) t := fun t k => castTop (ef_rm1 m a0_ p1) k
  have a1 : ∀ t, Steps p.tables e below (s₁.setTop (mkF m 1 #[.val (.ref a0_), .val (.int p1)] [(.ref a0_)])) t → Steps p.tables e below (s₁.setTop (entryFrame m #[(.ref a0_), (.int p1)] 2)) t := by
    intro t k
    refine pre0 t ?_
    show Steps p.tables e below (s₁.setTop (mkF m 0 #[.val (.ref a0_), .val (.int p1)] [])) _
    refine XS.aloadN X0.here hx rfl (hb hby d2_0) rfl rfl ?_
    exact k
  obtain ⟨_, _, ⟨T2, L2, k2, n2⟩, -, X2, ⟨Lc2, hQ2, l2, y2, z2⟩, st2⟩ := X0.specialBack hx (y := (⟨"java/lang/Record", "<init>", "()V"⟩ : MethodName)) rfl hown (mvT hZ (hw _ (List.mem_of_getElem? (i := 11) rfl))) (mvT hZ (hw _ (List.mem_of_getElem? (i := 12) rfl))) (mvT hZ (hw _ (List.mem_of_getElem? (i := 15) rfl))) (by decide) (backOf (W := 0) (rmRec l Z a0 hw [] a0_ h0 n0 Z0 ) hZ (hw _ (List.mem_of_getElem? (i := 15) rfl)) (hw _ (List.mem_of_getElem? (i := 14) rfl)) (by decide) (by decide)) (g := (mkF m 1 #[.val (.ref a0_), .val (.int p1)] [(.ref a0_)])) rfl (by rw [hml]; rfl) (Steps.refl _) (a := a0_) (argsL := []) (rest := []) (lenOf own_pd0 rfl) rfl (by show 2 * 0 + _ ≤ _; exact Nat.le_of_eq rfl) (hb hby d2_1) (fun _ _ => ⟨rfl, e0, (by decide : 0 + 0 ≤ _), (by decide : 0 + 0 ≤ _)⟩)
  dsimp only [Pt.U, Pt.locs, Pt.cells, Pt.slots] at X2 l2 y2 z2 st2 hQ2
  subst l2 y2 z2
  obtain ⟨rfl, N2q, e2q⟩ := hQ2
  have N2 := Fr.app N0 N2q
  have a3 : ∀ t, Steps p.tables e below (T2.setTop (mkF m 4 #[.val (.ref a0_), .val (.int p1)] [])) t → Steps p.tables e below (s₁.setTop (entryFrame m #[(.ref a0_), (.int p1)] 2)) t := fun t k => a1 t (st2.trans k)
  have a4 : ∀ t, Steps p.tables e below (T2.setTop (mkF m 25 #[.val (.ref a0_), .val (.int p1)] [(.int p1), (.ref a0_)])) t → Steps p.tables e below (s₁.setTop (entryFrame m #[(.ref a0_), (.int p1)] 2)) t := by
    intro t k
    refine a3 t ?_
    show Steps p.tables e below (T2.setTop (mkF m 4 #[.val (.ref a0_), .val (.int p1)] [])) _
    refine XS.iloadN X2.here hx rfl (hb hby d2_4) rfl ?_
    show Steps p.tables e below (T2.setTop (mkF m 5 #[.val (.ref a0_), .val (.int p1)] [(.int p1)])) _
    refine XS.iconst X2.here hx rfl (hb hby d2_5) ?_
    show Steps p.tables e below (T2.setTop (mkF m 6 #[.val (.ref a0_), .val (.int p1)] [(.int (1 : Int32)), (.int p1)])) _
    refine XS.icmpYes X2.here hx rfl (pc0 := 6) (pc' := 23) rfl (hb hby d2_6) rfl (flt hst).2.1 (by decide) (by decide) ?_
    show Steps p.tables e below (T2.setTop (mkF m 23 #[.val (.ref a0_), .val (.int p1)] [])) _
    refine XS.aloadN X2.here hx rfl (hb hby d2_23) rfl rfl ?_
    show Steps p.tables e below (T2.setTop (mkF m 24 #[.val (.ref a0_), .val (.int p1)] [(.ref a0_)])) _
    refine XS.iloadN X2.here hx rfl (hb hby d2_24) rfl ?_
    exact k
  obtain ⟨T5, h5, X5, e5, W5, st5⟩ := putF X2 hx hZ hown (host := "") (Or.inl (hw _ (List.mem_of_getElem? (i := 19) rfl))) Via.refl e2q F0_streams E0 (Or.inr ⟨(hw _ (List.mem_of_getElem? (i := 20) rfl)), rfl, hnm⟩) (hw _ (List.mem_of_getElem? (i := 6) rfl)) (ty := .int) (by decide) rfl rfl (g := (mkF m 25 #[.val (.ref a0_), .val (.int p1)] [(.int p1), (.ref a0_)])) rfl rfl (hb hby d2_25)
  have Fw5 := Fld.same W5 F0_streams
  have N5 := Fr.snoc X5 N2 g0
  have K5 : Keep h0 h5 [a0_] := Keep.wr (Keep.refl h0 [a0_]) W5 (Or.inl (List.mem_of_getElem? (i := 0) rfl))
  have a6 : ∀ t, Steps p.tables e below (T5.setTop (mkF m 28 #[.val (.ref a0_), .val (.int p1)] [])) t → Steps p.tables e below (s₁.setTop (entryFrame m #[(.ref a0_), (.int p1)] 2)) t := fun t k => a4 t (st5 t k)
  obtain ⟨fs, hr, hrun, hended, hW, hsame⟩ := X5.leave (v := none) (fun _ => rfl)
  refine ⟨_, _, a6 _ ?_, hrun, hended, _, _, rfl, ?_, ⟨_, rfl⟩, hW, hsame.mono (by decide) (by decide)⟩
  · show Steps p.tables e below (T5.setTop (mkF m 28 #[.val (.ref a0_), .val (.int p1)] [])) _
    exact X5.returnOut hx Bd.returns (hb hby d2_28) hr
  · show Qrm1 Z a0_ p1 h0 n0 _ T5.heap _
    rw [e5]
    exact ⟨rfl, N5, K5, Fw5⟩
theorem ef_rmB (m : MethodId) (x0 : Addr) (x1 : UInt64) : entryFrame m #[(.ref x0), (.double x1)] 3 = mkF m 0 #[.val (.ref x0), .val (.double x1), .second] [] := by first | (simp [entryFrame, mkF, argsToLocals, Value.category]; done) | rfl
theorem d5_0 : decode prog_32_method_3_code 0 = .ok (.dload_n 1, 1) := by decide +kernel
theorem d5_1 : decode prog_32_method_3_code 1 = .ok (.dconst 0, 1) := by decide +kernel
theorem d5_2 : decode prog_32_method_3_code 2 = .ok (.dcmp .l, 1) := by decide +kernel
theorem d5_3 : decode prog_32_method_3_code 3 = .ok (.ifCond .le 11, 3) := by decide +kernel
theorem d5_6 : decode prog_32_method_3_code 6 = .ok (.aload_n 0, 1) := by decide +kernel
theorem d5_7 : decode prog_32_method_3_code 7 = .ok (.getfield 16, 3) := by decide +kernel
theorem d5_10 : decode prog_32_method_3_code 10 = .ok (.i2d, 1) := by decide +kernel
theorem d5_11 : decode prog_32_method_3_code 11 = .ok (.goto 4, 3) := by decide +kernel
theorem d5_15 : decode prog_32_method_3_code 15 = .ok (.dreturn, 1) := by decide +kernel
theorem d5_14 : decode prog_32_method_3_code 14 = .ok (.dconst 0, 1) := by decide +kernel
def QB (Z : State) (a0_ : Addr) (d1 : UInt64) (s1 : Int32) (h0 : Heap) (n0 : Nat) (v : Option Value) (h : Heap) (L : List Loc) : Prop := v = some (.double (if FP.dcmp d1 0 = some .gt then FP.i2d s1 else 0)) ∧ Fr n0 L ∧ h = h0
set_option maxRecDepth 65536 in
set_option maxHeartbeats 40000000 in
theorem rmB (l : Launch) (Z : State) (a0 : Array Value) (hw : ∀ d ∈ tables_1, d.before a0 Z = true) (ws : List Jvm.Cond) (a0_ : Addr) (d1 : UInt64) (s1 : Int32) (h0 : Heap) (n0 : Nat) (Z0 : n0 ≤ h0.size) (F1 : Fld Z h0 a0_ "com/example/placewright/placewright/scheme/Broadcast" "streams" "I" (.int s1)) :
    MetFree l (⟨"com/example/placewright/placewright/scheme/Broadcast", "bandwidth", "(D)D"⟩ : MethodName) (head1 (Jvm.Cond.code (⟨"com/example/placewright/placewright/scheme/Broadcast", "bandwidth", "(D)D"⟩ : MethodName) prog_32_method_3_code 3 (some .double) :: ws) ({ frames := 0, cells := 0, slots := 0, locals := 0 } : Room)) (fun a U => a = #[(.ref a0_), (.double d1)] ∧ Z.Warmed39 U.vm ∧ U.heap = h0) (fun _ _ _ _ _ => True) (fun _ U o U' => ∃ v L, o = .returned v ∧ QB Z a0_ d1 s1 h0 n0 v U'.heap L ∧ FrameEnd U o U' L ({ frames := 0, cells := 0, slots := 0, locals := 0 } : Room).cells ({ frames := 0, cells := 0, slots := 0, locals := 0 } : Room).slots) := by
  refine MetFree.of_bodySF (plainFor_of_name own_pn_com_example_placewright_placewright_scheme_Broadcast) hisR ?_
  intro p e s m args below meth c s₁ Bd hml0 hP hK
  obtain ⟨rfl, hZ, hh⟩ := hP
  have hx := Bd.exec
  have hby := Bd.bytes
  have hml : c.maxLocals = 3 := hml0
  have hown : s.vm.findClass "com/example/placewright/placewright/scheme/Broadcast" = some m.cls := findClass_of_methodNamed Bd.named
  have hnm := (name_of_methodNamed Bd.named Bd.method).1
  have X0 : Stand p l e ({ frames := 0, cells := 0, slots := 0, locals := 0 } : Room) s m #[(.ref a0_), (.double d1)] below meth c s₁ [] 0 0 := Stand.of_body Bd
  have e0 : s₁.heap = h0 := by rw [← hh, Bd.state]; rfl
  have N0 := Fr.nil n0
  have pre0 : ∀ t, Steps p.tables e below (s₁.setTop (mkF m 0 #[.val (.ref a0_), .val (.double d1), .second] [])) t → Steps p.tables e below (s₁.setTop (entryFrame m #[(.ref a0_), (.double d1)] 3)) t := fun t k => castTop (ef_rmB m a0_ d1) k
  have a1 : ∀ t, Steps p.tables e below (s₁.setTop (mkF m 3 #[.val (.ref a0_), .val (.double d1), .second] [(.int (cmpValue (FP.dcmp d1 (0 : UInt64)) .l))])) t → Steps p.tables e below (s₁.setTop (entryFrame m #[(.ref a0_), (.double d1)] 3)) t := by
    intro t k
    refine pre0 t ?_
    show Steps p.tables e below (s₁.setTop (mkF m 0 #[.val (.ref a0_), .val (.double d1), .second] [])) _
    refine XS.dloadN X0.here hx rfl (hb hby d5_0) rfl ?_
    show Steps p.tables e below (s₁.setTop (mkF m 1 #[.val (.ref a0_), .val (.double d1), .second] [(.double d1)])) _
    refine XS.dconst0 X0.here hx rfl (hb hby d5_1) (v := 0) rfl ?_
    show Steps p.tables e below (s₁.setTop (mkF m 2 #[.val (.ref a0_), .val (.double d1), .second] [(.double (0 : UInt64)), (.double d1)])) _
    refine XS.dcmpS X0.here hx rfl (hb hby d5_2) rfl rfl ?_
    exact k
  by_cases hc3_2 : (0 : Int32) < (cmpValue (FP.dcmp d1 (0 : UInt64)) .l)
  ·
    have a3 : ∀ t, Steps p.tables e below (s₁.setTop (mkF m 7 #[.val (.ref a0_), .val (.double d1), .second] [(.ref a0_)])) t → Steps p.tables e below (s₁.setTop (entryFrame m #[(.ref a0_), (.double d1)] 3)) t := by
      intro t k
      refine a1 t ?_
      show Steps p.tables e below (s₁.setTop (mkF m 3 #[.val (.ref a0_), .val (.double d1), .second] [(.int (cmpValue (FP.dcmp d1 (0 : UInt64)) .l))])) _
      refine XS.ifNo X0.here hx rfl (hb hby d5_3) rfl ((if0 _ _).trans (tlt hc3_2).2.2.2) ?_
      show Steps p.tables e below (s₁.setTop (mkF m 6 #[.val (.ref a0_), .val (.double d1), .second] [])) _
      refine XS.aloadN X0.here hx rfl (hb hby d5_6) rfl rfl ?_
      exact k
    obtain ⟨T4, X4, e4, st4⟩ := getF X0 hx hZ hown (host := "") (Or.inl (hw _ (List.mem_of_getElem? (i := 19) rfl))) Via.refl e0 F1 (g := (mkF m 7 #[.val (.ref a0_), .val (.double d1), .second] [(.ref a0_)])) rfl rfl (hb hby d5_7)
    have a5 : ∀ t, Steps p.tables e below (T4.setTop (mkF m 10 #[.val (.ref a0_), .val (.double d1), .second] [(.int s1)])) t → Steps p.tables e below (s₁.setTop (entryFrame m #[(.ref a0_), (.double d1)] 3)) t := fun t k => a3 t (st4 t k)
    have a6 : ∀ t, Steps p.tables e below (T4.setTop (mkF m 15 #[.val (.ref a0_), .val (.double d1), .second] [(.double (FP.i2d s1))])) t → Steps p.tables e below (s₁.setTop (entryFrame m #[(.ref a0_), (.double d1)] 3)) t := by
      intro t k
      refine a5 t ?_
      show Steps p.tables e below (T4.setTop (mkF m 10 #[.val (.ref a0_), .val (.double d1), .second] [(.int s1)])) _
      refine XS.i2dS X4.here hx rfl (hb hby d5_10) rfl rfl ?_
      show Steps p.tables e below (T4.setTop (mkF m 11 #[.val (.ref a0_), .val (.double d1), .second] [(.double (FP.i2d s1))])) _
      refine XS.goto X4.here hx rfl (pc0 := 11) (pc' := 15) rfl (hb hby d5_11) (by decide) (by decide) ?_
      exact k
    obtain ⟨fs, hr, hrun, hended, hW, hsame⟩ := X4.leave (v := some (.double (FP.i2d s1))) (fun h => by rw [Bd.returns] at h; cases h)
    refine ⟨_, _, a6 _ ?_, hrun, hended, _, _, rfl, ?_, ⟨_, rfl⟩, hW, hsame.mono (by decide) (by decide)⟩
    · show Steps p.tables e below (T4.setTop (mkF m 15 #[.val (.ref a0_), .val (.double d1), .second] [(.double (FP.i2d s1))])) _
      exact retOut X4 hx Bd.returns rfl (Or.inr (Or.inr (Or.inl ⟨rfl, rfl, _, rfl⟩))) (hb hby d5_15) hr
    · show QB Z a0_ d1 s1 h0 n0 _ T4.heap _
      rw [e4]
      exact ⟨by rw [if_pos ((cv_gt_l _).mp hc3_2)], N0, rfl⟩
  ·
    have a7 : ∀ t, Steps p.tables e below (s₁.setTop (mkF m 15 #[.val (.ref a0_), .val (.double d1), .second] [(.double (0 : UInt64))])) t → Steps p.tables e below (s₁.setTop (entryFrame m #[(.ref a0_), (.double d1)] 3)) t := by
      intro t k
      refine a1 t ?_
      show Steps p.tables e below (s₁.setTop (mkF m 3 #[.val (.ref a0_), .val (.double d1), .second] [(.int (cmpValue (FP.dcmp d1 (0 : UInt64)) .l))])) _
      refine XS.ifYes X0.here hx rfl (pc0 := 3) (pc' := 14) rfl (hb hby d5_3) rfl ((if0 _ _).trans (flt hc3_2).2.2.2) (by decide) (by decide) ?_
      show Steps p.tables e below (s₁.setTop (mkF m 14 #[.val (.ref a0_), .val (.double d1), .second] [])) _
      refine XS.dconst0 X0.here hx rfl (hb hby d5_14) (v := 0) rfl ?_
      exact k
    obtain ⟨fs, hr, hrun, hended, hW, hsame⟩ := X0.leave (v := some (.double (0 : UInt64))) (fun h => by rw [Bd.returns] at h; cases h)
    refine ⟨_, _, a7 _ ?_, hrun, hended, _, _, rfl, ?_, ⟨_, rfl⟩, hW, hsame.mono (by decide) (by decide)⟩
    · show Steps p.tables e below (s₁.setTop (mkF m 15 #[.val (.ref a0_), .val (.double d1), .second] [(.double (0 : UInt64))])) _
      exact retOut X0 hx Bd.returns rfl (Or.inr (Or.inr (Or.inl ⟨rfl, rfl, _, rfl⟩))) (hb hby d5_15) hr
    · show QB Z a0_ d1 s1 h0 n0 _ s₁.heap _
      rw [e0]
      exact ⟨by rw [if_neg (fun q => hc3_2 ((cv_gt_l _).mpr q))], N0, rfl⟩
theorem ef_rm0 (m : MethodId) (x0 : Int32) (x1 : Int32) (x2 : Int32) (x3 : Int32) (x4 : Int64) : entryFrame m #[(.int x0), (.int x1), (.int x2), (.int x3), (.long x4)] maxLocals = mkF m 0 #[.val (.int x0), .val (.int x1), .val (.int x2), .val (.int x3), .val (.long x4), .second, .unset, .unset, .unset, .unset, .unset, .unset, .unset, .unset, .unset, .unset] [] := by first | (simp [entryFrame, mkF, argsToLocals, Value.category, maxLocals]; done) | rfl
theorem own_pd1 : parseMethodDescriptor "(II)I" = some ⟨[.int, .int], some .int⟩ := by decide +kernel
theorem own_pd2 : parseMethodDescriptor "(I)V" = some ⟨[.int], none⟩ := by decide +kernel
theorem own_pd3 : parseMethodDescriptor "(D)D" = some ⟨[.double], some .double⟩ := by decide +kernel
theorem own_pn_com_example_placewright_placewright_scheme_BroadcastBandwidthPinLaw : plainName "com/example/placewright/placewright/scheme/BroadcastBandwidthPinLaw" = true := by first | (simp [plainName, overriddenIn]; done) | decide +kernel
def Q0 (Z : State) (p0 : Int32) (p1 : Int32) (p2 : Int32) (p3 : Int32) (q4 : Int64) (h0 : Heap) (n0 : Nat) (v : Option Value) (h : Heap) (L : List Loc) : Prop := v = some (.int 1) ∧ Fr n0 L
set_option maxRecDepth 65536 in
set_option maxHeartbeats 40000000 in
theorem rm0 (l : Launch) (Z : State) (a0 : Array Value) (hw : ∀ d ∈ tables_1, d.before a0 Z = true) (ws : List Jvm.Cond) (p0 : Int32) (p1 : Int32) (p2 : Int32) (p3 : Int32) (q4 : Int64) (h0 : Heap) (n0 : Nat) (Z0 : n0 ≤ h0.size) :
    MetFree l x (head1 (Jvm.Cond.code x code maxLocals ret :: ws) room_1) (fun a U => a = #[(.int p0), (.int p1), (.int p2), (.int p3), (.long q4)] ∧ Z.Warmed39 U.vm ∧ U.heap = h0) (fun _ _ _ _ _ => True) (fun _ U o U' => ∃ v L, o = .returned v ∧ Q0 Z p0 p1 p2 p3 q4 h0 n0 v U'.heap L ∧ FrameEnd U o U' L room_1.cells room_1.slots) := by
  refine MetFree.of_bodySF (plainFor_of_name own_pn_com_example_placewright_placewright_scheme_BroadcastBandwidthPinLaw) hisR ?_
  intro p e s m args below meth c s₁ Bd hml0 hP hK
  obtain ⟨rfl, hZ, hh⟩ := hP
  have hx := Bd.exec
  have hby := Bd.bytes
  have hml : c.maxLocals = 16 := hml0
  have hown : s.vm.findClass "com/example/placewright/placewright/scheme/BroadcastBandwidthPinLaw" = some m.cls := findClass_of_methodNamed Bd.named
  have hnm := (name_of_methodNamed Bd.named Bd.method).1
  have X0 : Stand p l e room_1 s m #[(.int p0), (.int p1), (.int p2), (.int p3), (.long q4)] below meth c s₁ [] 0 0 := Stand.of_body Bd
  have e0 : s₁.heap = h0 := by rw [← hh, Bd.state]; rfl
  have N0 := Fr.nil n0
  have pre0 : ∀ t, Steps p.tables e below (s₁.setTop (mkF m 0 #[.val (.int p0), .val (.int p1), .val (.int p2), .val (.int p3), .val (.long q4), .second, .unset, .unset, .unset, .unset, .unset, .unset, .unset, .unset, .unset, .unset] [])) t → Steps p.tables e below (s₁.setTop (entryFrame m #[(.int p0), (.int p1), (.int p2), (.int p3), (.long q4)] maxLocals)) t := fun t k => castTop (ef_rm0 m p0 p1 p2 p3 q4) k
  have a1 : ∀ t, Steps p.tables e below (s₁.setTop (mkF m 5 #[.val (.int p0), .val (.int p1), .val (.int p2), .val (.int p3), .val (.long q4), .second, .unset, .unset, .unset, .unset, .unset, .unset, .unset, .unset, .unset, .unset] [(.int (p0 &&& (2147483647 : Int32))), (.int (1 : Int32))])) t → Steps p.tables e below (s₁.setTop (entryFrame m #[(.int p0), (.int p1), (.int p2), (.int p3), (.long q4)] maxLocals)) t := by
    intro t k
    refine pre0 t ?_
    show Steps p.tables e below (s₁.setTop (mkF m 0 #[.val (.int p0), .val (.int p1), .val (.int p2), .val (.int p3), .val (.long q4), .second, .unset, .unset, .unset, .unset, .unset, .unset, .unset, .unset, .unset, .unset] [])) _
    refine XS.iconst X0.here hx rfl (hb hby at_0) ?_
    show Steps p.tables e below (s₁.setTop (mkF m 1 #[.val (.int p0), .val (.int p1), .val (.int p2), .val (.int p3), .val (.long q4), .second, .unset, .unset, .unset, .unset, .unset, .unset, .unset, .unset, .unset, .unset] [(.int (1 : Int32))])) _
    refine XS.iloadN X0.here hx rfl (hb hby at_1) rfl ?_
    show Steps p.tables e below (s₁.setTop (mkF m 2 #[.val (.int p0), .val (.int p1), .val (.int p2), .val (.int p3), .val (.long q4), .second, .unset, .unset, .unset, .unset, .unset, .unset, .unset, .unset, .unset, .unset] [(.int p0), (.int (1 : Int32))])) _
    refine X0.ldcInt hx hown (mvT hZ (hw _ (List.mem_of_getElem? (i := 0) rfl))) (g := (mkF m 2 #[.val (.int p0), .val (.int p1), .val (.int p2), .val (.int p3), .val (.long q4), .second, .unset, .unset, .unset, .unset, .unset, .unset, .unset, .unset, .unset, .unset] [(.int p0), (.int (1 : Int32))])) rfl (hb hby at_2) _ ?_
    show Steps p.tables e below (s₁.setTop (mkF m 4 #[.val (.int p0), .val (.int p1), .val (.int p2), .val (.int p3), .val (.long q4), .second, .unset, .unset, .unset, .unset, .unset, .unset, .unset, .unset, .unset, .unset] [(.int (2147483647 : Int32)), (.int p0), (.int (1 : Int32))])) _
    refine XS.iand X0.here hx rfl (hb hby at_4) rfl ?_
    exact k
  obtain ⟨_, _, ⟨T2, L2, k2, n2⟩, -, X2, ⟨Lc2, hQ2, l2, y2, z2⟩, st2⟩ := Jvm.LawKit.callS X0 hx (y := (⟨"java/lang/Math", "max", "(II)I"⟩ : MethodName)) hown (mvT hZ (hw _ (List.mem_of_getElem? (i := 1) rfl))) (mvT hZ (hw _ (List.mem_of_getElem? (i := 2) rfl))) (mvT hZ (hw _ (List.mem_of_getElem? (i := 3) rfl))) (mvT hZ (hw _ (List.mem_of_getElem? (i := 4) rfl))) (by decide) (backOf (W := 0) (rmMax l Z a0 hw [] (1 : Int32) (p0 &&& (2147483647 : Int32)) h0 n0 Z0 ) hZ (hw _ (List.mem_of_getElem? (i := 4) rfl)) (hw _ (List.mem_of_getElem? (i := 3) rfl)) (by decide) (by decide)) (g := (mkF m 5 #[.val (.int p0), .val (.int p1), .val (.int p2), .val (.int p3), .val (.long q4), .second, .unset, .unset, .unset, .unset, .unset, .unset, .unset, .unset, .unset, .unset] [(.int (p0 &&& (2147483647 : Int32))), (.int (1 : Int32))])) rfl (by rw [hml]; rfl) (argsL := [(.int (1 : Int32)), (.int (p0 &&& (2147483647 : Int32)))]) (rest := []) (lenOf own_pd1 rfl) rfl (by show 2 * 0 + _ ≤ _; exact Nat.le_of_eq rfl) (hb hby at_5) (fun _ _ => ⟨rfl, e0, (by decide : 0 + 0 ≤ _), (by decide : 0 + 0 ≤ _)⟩)
  dsimp only [Pt.U, Pt.locs, Pt.cells, Pt.slots] at X2 l2 y2 z2 st2 hQ2
  subst l2 y2 z2
  obtain ⟨rfl, N2q, e2q⟩ := hQ2
  have N2 := Fr.app N0 N2q
  have a3 : ∀ t, Steps p.tables e below (T2.setTop (mkF m 8 #[.val (.int p0), .val (.int p1), .val (.int p2), .val (.int p3), .val (.long q4), .second, .unset, .unset, .unset, .unset, .unset, .unset, .unset, .unset, .unset, .unset] [(.int (if (1 : Int32) < (p0 &&& (2147483647 : Int32)) then (p0 &&& (2147483647 : Int32)) else (1 : Int32)))])) t → Steps p.tables e below (s₁.setTop (entryFrame m #[(.int p0), (.int p1), (.int p2), (.int p3), (.long q4)] maxLocals)) t := fun t k => a1 t (st2 t k)
  obtain ⟨stn, h_stn⟩ : ∃ z : Int32, z = (if (1 : Int32) < (p0 &&& (2147483647 : Int32)) then (p0 &&& (2147483647 : Int32)) else (1 : Int32)) := ⟨_, rfl⟩
  rw [← h_stn] at a3
  have hst : ¬ (stn < (1 : Int32)) := by rw [h_stn]; exact own_max1 _
  have a4 : ∀ t, Steps p.tables e below (T2.setTop (mkF m 10 #[.val (.int p0), .val (.int p1), .val (.int p2), .val (.int p3), .val (.long q4), .second, .val (.int stn), .unset, .unset, .unset, .unset, .unset, .unset, .unset, .unset, .unset] [])) t → Steps p.tables e below (s₁.setTop (entryFrame m #[(.int p0), (.int p1), (.int p2), (.int p3), (.long q4)] maxLocals)) t := by
    intro t k
    refine a3 t ?_
    show Steps p.tables e below (T2.setTop (mkF m 8 #[.val (.int p0), .val (.int p1), .val (.int p2), .val (.int p3), .val (.long q4), .second, .unset, .unset, .unset, .unset, .unset, .unset, .unset, .unset, .unset, .unset] [(.int stn)])) _
    refine XS.istore X2.here hx rfl (hb hby at_8) rfl (l' := #[.val (.int p0), .val (.int p1), .val (.int p2), .val (.int p3), .val (.long q4), .second, .val (.int stn), .unset, .unset, .unset, .unset, .unset, .unset, .unset, .unset, .unset]) rfl ?_
    exact k
  obtain ⟨T5, h5, X5, e5, E5, A5, D5, -, st5⟩ := newO X2 hx hZ hown (hw _ (List.mem_of_getElem? (i := 5) rfl)) (hw _ (List.mem_of_getElem? (i := 6) rfl)) (hw _ (List.mem_of_getElem? (i := 7) rfl)) e2q (g := (mkF m 10 #[.val (.int p0), .val (.int p1), .val (.int p2), .val (.int p3), .val (.long q4), .second, .val (.int stn), .unset, .unset, .unset, .unset, .unset, .unset, .unset, .unset, .unset] [])) rfl (hb hby at_10) (by decide) (by decide)
  obtain ⟨b5, g5⟩ : ∃ z, z = h0.size := ⟨_, rfl⟩
  rw [← g5] at A5 D5 st5
  have g_b5 : n0 ≤ b5 := Nat.le_trans Z0 (Nat.le_of_eq g5.symm)
  have sz_b5 : h0.size ≤ b5 := Nat.le_trans ((Keep.refl h0 [])).1 (Nat.le_of_eq g5.symm)
  have K5 : Keep h0 h5 [] := Keep.ext (Keep.refl h0 []) E5
  have F_streams_b5 : Fld Z h5 b5 "com/example/placewright/placewright/scheme/Broadcast" "streams" "I" (.int (0 : Int32)) := D5 (Or.inr (hw _ (List.mem_of_getElem? (i := 20) rfl))) (ty := .int) (by decide)
  have a6 : ∀ t, Steps p.tables e below (T5.setTop (mkF m 13 #[.val (.int p0), .val (.int p1), .val (.int p2), .val (.int p3), .val (.long q4), .second, .val (.int stn), .unset, .unset, .unset, .unset, .unset, .unset, .unset, .unset, .unset] [(.ref b5)])) t → Steps p.tables e below (s₁.setTop (entryFrame m #[(.int p0), (.int p1), (.int p2), (.int p3), (.long q4)] maxLocals)) t := fun t k => a4 t (st5 t k)
  have a7 : ∀ t, Steps p.tables e below (T5.setTop (mkF m 16 #[.val (.int p0), .val (.int p1), .val (.int p2), .val (.int p3), .val (.long q4), .second, .val (.int stn), .unset, .unset, .unset, .unset, .unset, .unset, .unset, .unset, .unset] [(.int stn), (.ref b5), (.ref b5)])) t → Steps p.tables e below (s₁.setTop (entryFrame m #[(.int p0), (.int p1), (.int p2), (.int p3), (.long q4)] maxLocals)) t := by
    intro t k
    refine a6 t ?_
    show Steps p.tables e below (T5.setTop (mkF m 13 #[.val (.int p0), .val (.int p1), .val (.int p2), .val (.int p3), .val (.long q4), .second, .val (.int stn), .unset, .unset, .unset, .unset, .unset, .unset, .unset, .unset, .unset] [(.ref b5)])) _
    refine XS.dup X5.here hx rfl (hb hby at_13) rfl rfl ?_
    show Steps p.tables e below (T5.setTop (mkF m 14 #[.val (.int p0), .val (.int p1), .val (.int p2), .val (.int p3), .val (.long q4), .second, .val (.int stn), .unset, .unset, .unset, .unset, .unset, .unset, .unset, .unset, .unset] [(.ref b5), (.ref b5)])) _
    refine XS.iload X5.here hx rfl (hb hby at_14) rfl ?_
    exact k
  obtain ⟨_, _, ⟨T8, L8, k8, n8⟩, -, X8, ⟨Lc8, hQ8, l8, y8, z8⟩, st8⟩ := X5.specialBack hx (y := (⟨"com/example/placewright/placewright/scheme/Broadcast", "<init>", "(I)V"⟩ : MethodName)) rfl hown (mvT hZ (hw _ (List.mem_of_getElem? (i := 8) rfl))) (mvT hZ (hw _ (List.mem_of_getElem? (i := 9) rfl))) (mvT hZ (hw _ (List.mem_of_getElem? (i := 10) rfl))) (by decide) (backOf (W := 1) (rm1 l Z a0 hw [] b5 stn  h5 n0 (Nat.le_trans Z0 E5.1) A5 g_b5 F_streams_b5 hst) hZ (hw _ (List.mem_of_getElem? (i := 10) rfl)) (hw _ (List.mem_of_getElem? (i := 7) rfl)) (by decide) (by decide)) (g := (mkF m 16 #[.val (.int p0), .val (.int p1), .val (.int p2), .val (.int p3), .val (.long q4), .second, .val (.int stn), .unset, .unset, .unset, .unset, .unset, .unset, .unset, .unset, .unset] [(.int stn), (.ref b5), (.ref b5)])) rfl (by rw [hml]; rfl) (Steps.refl _) (a := b5) (argsL := [(.int stn)]) (rest := [(.ref b5)]) (lenOf own_pd2 rfl) rfl (by show 2 * 0 + _ ≤ _; exact Nat.le_of_eq rfl) (hb hby at_16) (fun _ _ => ⟨rfl, e5, (by decide : 1 + 0 ≤ _), (by decide : 1 + 0 ≤ _)⟩)
  dsimp only [Pt.U, Pt.locs, Pt.cells, Pt.slots] at X8 l8 y8 z8 st8 hQ8
  subst l8 y8 z8
  obtain ⟨rfl, N8q, K8q, G8_0⟩ := hQ8
  have N8 := Fr.app N2 N8q
  have KK8 : Keep h0 T8.heap [] := Keep.trans K5 K8q (allS (Or.inr sz_b5) all0)
  have a9 : ∀ t, Steps p.tables e below (T8.setTop (mkF m 19 #[.val (.int p0), .val (.int p1), .val (.int p2), .val (.int p3), .val (.long q4), .second, .val (.int stn), .unset, .unset, .unset, .unset, .unset, .unset, .unset, .unset, .unset] [(.ref b5)])) t → Steps p.tables e below (s₁.setTop (entryFrame m #[(.int p0), (.int p1), (.int p2), (.int p3), (.long q4)] maxLocals)) t := fun t k => a7 t (st8.trans k)
  have a10 : ∀ t, Steps p.tables e below (T8.setTop (mkF m 29 #[.val (.int p0), .val (.int p1), .val (.int p2), .val (.int p3), .val (.long q4), .second, .val (.int stn), .val (.ref b5), .val (.int (p1 &&& (7 : Int32))), .unset, .unset, .unset, .unset, .unset, .unset, .unset] [(.int (p1 &&& (7 : Int32)))])) t → Steps p.tables e below (s₁.setTop (entryFrame m #[(.int p0), (.int p1), (.int p2), (.int p3), (.long q4)] maxLocals)) t := by
    intro t k
    refine a9 t ?_
    show Steps p.tables e below (T8.setTop (mkF m 19 #[.val (.int p0), .val (.int p1), .val (.int p2), .val (.int p3), .val (.long q4), .second, .val (.int stn), .unset, .unset, .unset, .unset, .unset, .unset, .unset, .unset, .unset] [(.ref b5)])) _
    refine XS.astore X8.here hx rfl (hb hby at_19) rfl rfl (l' := #[.val (.int p0), .val (.int p1), .val (.int p2), .val (.int p3), .val (.long q4), .second, .val (.int stn), .val (.ref b5), .unset, .unset, .unset, .unset, .unset, .unset, .unset, .unset]) rfl ?_
    show Steps p.tables e below (T8.setTop (mkF m 21 #[.val (.int p0), .val (.int p1), .val (.int p2), .val (.int p3), .val (.long q4), .second, .val (.int stn), .val (.ref b5), .unset, .unset, .unset, .unset, .unset, .unset, .unset, .unset] [])) _
    refine XS.iloadN X8.here hx rfl (hb hby at_21) rfl ?_
    show Steps p.tables e below (T8.setTop (mkF m 22 #[.val (.int p0), .val (.int p1), .val (.int p2), .val (.int p3), .val (.long q4), .second, .val (.int stn), .val (.ref b5), .unset, .unset, .unset, .unset, .unset, .unset, .unset, .unset] [(.int p1)])) _
    refine XS.bipush X8.here hx rfl (hb hby at_22) ?_
    show Steps p.tables e below (T8.setTop (mkF m 24 #[.val (.int p0), .val (.int p1), .val (.int p2), .val (.int p3), .val (.long q4), .second, .val (.int stn), .val (.ref b5), .unset, .unset, .unset, .unset, .unset, .unset, .unset, .unset] [(.int (7 : Int32)), (.int p1)])) _
    refine XS.iand X8.here hx rfl (hb hby at_24) rfl ?_
    show Steps p.tables e below (T8.setTop (mkF m 25 #[.val (.int p0), .val (.int p1), .val (.int p2), .val (.int p3), .val (.long q4), .second, .val (.int stn), .val (.ref b5), .unset, .unset, .unset, .unset, .unset, .unset, .unset, .unset] [(.int (p1 &&& (7 : Int32)))])) _
    refine XS.istore X8.here hx rfl (hb hby at_25) rfl (l' := #[.val (.int p0), .val (.int p1), .val (.int p2), .val (.int p3), .val (.long q4), .second, .val (.int stn), .val (.ref b5), .val (.int (p1 &&& (7 : Int32))), .unset, .unset, .unset, .unset, .unset, .unset, .unset]) rfl ?_
    show Steps p.tables e below (T8.setTop (mkF m 27 #[.val (.int p0), .val (.int p1), .val (.int p2), .val (.int p3), .val (.long q4), .second, .val (.int stn), .val (.ref b5), .val (.int (p1 &&& (7 : Int32))), .unset, .unset, .unset, .unset, .unset, .unset, .unset] [])) _
    refine XS.iload X8.here hx rfl (hb hby at_27) rfl ?_
    exact k
  by_cases hc29_11 : (p1 &&& (7 : Int32)) = (0 : Int32)
  ·
    have a12 : ∀ t, Steps p.tables e below (T8.setTop (mkF m 222 #[.val (.int p0), .val (.int p1), .val (.int p2), .val (.int p3), .val (.long q4), .second, .val (.int stn), .val (.ref b5), .val (.int (p1 &&& (7 : Int32))), .val (.double (0 : UInt64)), .second, .val (.int (0 : Int32)), .unset, .unset, .unset, .unset] [(.double (0 : UInt64)), (.ref b5)])) t → Steps p.tables e below (s₁.setTop (entryFrame m #[(.int p0), (.int p1), (.int p2), (.int p3), (.long q4)] maxLocals)) t := by
      intro t k
      refine a10 t ?_
      show Steps p.tables e below (T8.setTop (mkF m 29 #[.val (.int p0), .val (.int p1), .val (.int p2), .val (.int p3), .val (.long q4), .second, .val (.int stn), .val (.ref b5), .val (.int (p1 &&& (7 : Int32))), .unset, .unset, .unset, .unset, .unset, .unset, .unset] [(.int (p1 &&& (7 : Int32)))])) _
      refine XS.ifNo X8.here hx rfl (hb hby at_29) rfl ((if0 _ _).trans (teq hc29_11).2) ?_
      show Steps p.tables e below (T8.setTop (mkF m 32 #[.val (.int p0), .val (.int p1), .val (.int p2), .val (.int p3), .val (.long q4), .second, .val (.int stn), .val (.ref b5), .val (.int (p1 &&& (7 : Int32))), .unset, .unset, .unset, .unset, .unset, .unset, .unset] [])) _
      refine XS.dconst0 X8.here hx rfl (hb hby at_32) (v := 0) rfl ?_
      show Steps p.tables e below (T8.setTop (mkF m 33 #[.val (.int p0), .val (.int p1), .val (.int p2), .val (.int p3), .val (.long q4), .second, .val (.int stn), .val (.ref b5), .val (.int (p1 &&& (7 : Int32))), .unset, .unset, .unset, .unset, .unset, .unset, .unset] [(.double (0 : UInt64))])) _
      refine XS.dstore X8.here hx rfl (hb hby at_33) rfl (l' := #[.val (.int p0), .val (.int p1), .val (.int p2), .val (.int p3), .val (.long q4), .second, .val (.int stn), .val (.ref b5), .val (.int (p1 &&& (7 : Int32))), .val (.double (0 : UInt64)), .second, .unset, .unset, .unset, .unset, .unset]) rfl ?_
      show Steps p.tables e below (T8.setTop (mkF m 35 #[.val (.int p0), .val (.int p1), .val (.int p2), .val (.int p3), .val (.long q4), .second, .val (.int stn), .val (.ref b5), .val (.int (p1 &&& (7 : Int32))), .val (.double (0 : UInt64)), .second, .unset, .unset, .unset, .unset, .unset] [])) _
      refine XS.iconst X8.here hx rfl (hb hby at_35) ?_
      show Steps p.tables e below (T8.setTop (mkF m 36 #[.val (.int p0), .val (.int p1), .val (.int p2), .val (.int p3), .val (.long q4), .second, .val (.int stn), .val (.ref b5), .val (.int (p1 &&& (7 : Int32))), .val (.double (0 : UInt64)), .second, .unset, .unset, .unset, .unset, .unset] [(.int (0 : Int32))])) _
      refine XS.istore X8.here hx rfl (hb hby at_36) rfl (l' := #[.val (.int p0), .val (.int p1), .val (.int p2), .val (.int p3), .val (.long q4), .second, .val (.int stn), .val (.ref b5), .val (.int (p1 &&& (7 : Int32))), .val (.double (0 : UInt64)), .second, .val (.int (0 : Int32)), .unset, .unset, .unset, .unset]) rfl ?_
      show Steps p.tables e below (T8.setTop (mkF m 38 #[.val (.int p0), .val (.int p1), .val (.int p2), .val (.int p3), .val (.long q4), .second, .val (.int stn), .val (.ref b5), .val (.int (p1 &&& (7 : Int32))), .val (.double (0 : UInt64)), .second, .val (.int (0 : Int32)), .unset, .unset, .unset, .unset] [])) _
      refine XS.goto X8.here hx rfl (pc0 := 38) (pc' := 218) rfl (hb hby at_38) (by decide) (by decide) ?_
      show Steps p.tables e below (T8.setTop (mkF m 218 #[.val (.int p0), .val (.int p1), .val (.int p2), .val (.int p3), .val (.long q4), .second, .val (.int stn), .val (.ref b5), .val (.int (p1 &&& (7 : Int32))), .val (.double (0 : UInt64)), .second, .val (.int (0 : Int32)), .unset, .unset, .unset, .unset] [])) _
      refine XS.aload X8.here hx rfl (hb hby at_218) rfl rfl ?_
      show Steps p.tables e below (T8.setTop (mkF m 220 #[.val (.int p0), .val (.int p1), .val (.int p2), .val (.int p3), .val (.long q4), .second, .val (.int stn), .val (.ref b5), .val (.int (p1 &&& (7 : Int32))), .val (.double (0 : UInt64)), .second, .val (.int (0 : Int32)), .unset, .unset, .unset, .unset] [(.ref b5)])) _
      refine XS.dload X8.here hx rfl (hb hby at_220) rfl ?_
      exact k
    obtain ⟨cq13, kq13, q13a, q13b, q13c⟩ := isOf hZ rfl (A5.keep K8q)
    obtain ⟨_, _, ⟨T13, L13, k13, n13⟩, -, X13, ⟨Lc13, hQ13, l13, y13, z13⟩, st13⟩ := X8.virtualBack hx (y := (⟨"com/example/placewright/placewright/scheme/Broadcast", "bandwidth", "(D)D"⟩ : MethodName)) (z := (⟨"com/example/placewright/placewright/scheme/Broadcast", "bandwidth", "(D)D"⟩ : MethodName)) hown (mvT hZ (hw _ (List.mem_of_getElem? (i := 22) rfl))) (mvT hZ (hw _ (List.mem_of_getElem? (i := 23) rfl))) (notFace_of_selects (args := #[]) (mvT hZ (hw _ (List.mem_of_getElem? (i := 25) rfl)))) (mvT hZ (hw _ (List.mem_of_getElem? (i := 25) rfl))) (mvT hZ (hw _ (List.mem_of_getElem? (i := 24) rfl))) (by decide) (backOf (W := 0) (rmB l Z a0 hw [] b5 (0 : UInt64) stn T8.heap n0 (Nat.le_trans (Nat.le_trans Z0 E5.1) K8q.1) G8_0) hZ (hw _ (List.mem_of_getElem? (i := 26) rfl)) (hw _ (List.mem_of_getElem? (i := 7) rfl)) (by decide) (by decide)) q13a q13c (g := (mkF m 222 #[.val (.int p0), .val (.int p1), .val (.int p2), .val (.int p3), .val (.long q4), .second, .val (.int stn), .val (.ref b5), .val (.int (p1 &&& (7 : Int32))), .val (.double (0 : UInt64)), .second, .val (.int (0 : Int32)), .unset, .unset, .unset, .unset] [(.double (0 : UInt64)), (.ref b5)])) rfl (by rw [hml]; rfl) (Steps.refl _) (argsL := [(.double (0 : UInt64))]) (rest := []) (lenOf own_pd3 rfl) rfl (by show 2 * 0 + _ ≤ _; exact Nat.le_of_eq rfl) (hb hby at_222) (fun _ _ => ⟨rfl, rfl, (by decide : 1 + 0 ≤ _), (by decide : 1 + 0 ≤ _)⟩)
    dsimp only [Pt.U, Pt.locs, Pt.cells, Pt.slots] at X13 l13 y13 z13 st13 hQ13
    subst l13 y13 z13
    obtain ⟨rfl, N13q, e13q⟩ := hQ13
    have N13 := Fr.app N8 N13q
    have a14 : ∀ t, Steps p.tables e below (T13.setTop (mkF m 225 #[.val (.int p0), .val (.int p1), .val (.int p2), .val (.int p3), .val (.long q4), .second, .val (.int stn), .val (.ref b5), .val (.int (p1 &&& (7 : Int32))), .val (.double (0 : UInt64)), .second, .val (.int (0 : Int32)), .unset, .unset, .unset, .unset] [(.double (if FP.dcmp (0 : UInt64) 0 = some .gt then FP.i2d stn else 0))])) t → Steps p.tables e below (s₁.setTop (entryFrame m #[(.int p0), (.int p1), (.int p2), (.int p3), (.long q4)] maxLocals)) t := fun t k => a12 t (st13.trans k)
    obtain ⟨r, h_r⟩ : ∃ z : UInt64, z = (if FP.dcmp (0 : UInt64) 0 = some .gt then FP.i2d stn else 0) := ⟨_, rfl⟩
    rw [← h_r] at a14
    have a15 : ∀ t, Steps p.tables e below (T13.setTop (mkF m 254 #[.val (.int p0), .val (.int p1), .val (.int p2), .val (.int p3), .val (.long q4), .second, .val (.int stn), .val (.ref b5), .val (.int (p1 &&& (7 : Int32))), .val (.double (0 : UInt64)), .second, .val (.int (0 : Int32)), .val (.double r), .second, .val (.double (0 : UInt64)), .second] [(.int (1 : Int32))])) t → Steps p.tables e below (s₁.setTop (entryFrame m #[(.int p0), (.int p1), (.int p2), (.int p3), (.long q4)] maxLocals)) t := by
      intro t k
      refine a14 t ?_
      show Steps p.tables e below (T13.setTop (mkF m 225 #[.val (.int p0), .val (.int p1), .val (.int p2), .val (.int p3), .val (.long q4), .second, .val (.int stn), .val (.ref b5), .val (.int (p1 &&& (7 : Int32))), .val (.double (0 : UInt64)), .second, .val (.int (0 : Int32)), .unset, .unset, .unset, .unset] [(.double r)])) _
      refine XS.dstore X13.here hx rfl (hb hby at_225) rfl (l' := #[.val (.int p0), .val (.int p1), .val (.int p2), .val (.int p3), .val (.long q4), .second, .val (.int stn), .val (.ref b5), .val (.int (p1 &&& (7 : Int32))), .val (.double (0 : UInt64)), .second, .val (.int (0 : Int32)), .val (.double r), .second, .unset, .unset]) rfl ?_
      show Steps p.tables e below (T13.setTop (mkF m 227 #[.val (.int p0), .val (.int p1), .val (.int p2), .val (.int p3), .val (.long q4), .second, .val (.int stn), .val (.ref b5), .val (.int (p1 &&& (7 : Int32))), .val (.double (0 : UInt64)), .second, .val (.int (0 : Int32)), .val (.double r), .second, .unset, .unset] [])) _
      refine XS.iload X13.here hx rfl (hb hby at_227) rfl ?_
      show Steps p.tables e below (T13.setTop (mkF m 229 #[.val (.int p0), .val (.int p1), .val (.int p2), .val (.int p3), .val (.long q4), .second, .val (.int stn), .val (.ref b5), .val (.int (p1 &&& (7 : Int32))), .val (.double (0 : UInt64)), .second, .val (.int (0 : Int32)), .val (.double r), .second, .unset, .unset] [(.int (0 : Int32))])) _
      refine XS.ifYes X13.here hx rfl (pc0 := 229) (pc' := 238) rfl (hb hby at_229) rfl ((if0 _ _).trans (teq rfl).1) (by decide) (by decide) ?_
      show Steps p.tables e below (T13.setTop (mkF m 238 #[.val (.int p0), .val (.int p1), .val (.int p2), .val (.int p3), .val (.long q4), .second, .val (.int stn), .val (.ref b5), .val (.int (p1 &&& (7 : Int32))), .val (.double (0 : UInt64)), .second, .val (.int (0 : Int32)), .val (.double r), .second, .unset, .unset] [])) _
      refine XS.dconst0 X13.here hx rfl (hb hby at_238) (v := 0) rfl ?_
      show Steps p.tables e below (T13.setTop (mkF m 239 #[.val (.int p0), .val (.int p1), .val (.int p2), .val (.int p3), .val (.long q4), .second, .val (.int stn), .val (.ref b5), .val (.int (p1 &&& (7 : Int32))), .val (.double (0 : UInt64)), .second, .val (.int (0 : Int32)), .val (.double r), .second, .unset, .unset] [(.double (0 : UInt64))])) _
      refine XS.dstore X13.here hx rfl (hb hby at_239) rfl (l' := #[.val (.int p0), .val (.int p1), .val (.int p2), .val (.int p3), .val (.long q4), .second, .val (.int stn), .val (.ref b5), .val (.int (p1 &&& (7 : Int32))), .val (.double (0 : UInt64)), .second, .val (.int (0 : Int32)), .val (.double r), .second, .val (.double (0 : UInt64)), .second]) rfl ?_
      show Steps p.tables e below (T13.setTop (mkF m 241 #[.val (.int p0), .val (.int p1), .val (.int p2), .val (.int p3), .val (.long q4), .second, .val (.int stn), .val (.ref b5), .val (.int (p1 &&& (7 : Int32))), .val (.double (0 : UInt64)), .second, .val (.int (0 : Int32)), .val (.double r), .second, .val (.double (0 : UInt64)), .second] [])) _
      refine XS.dload X13.here hx rfl (hb hby at_241) rfl ?_
      show Steps p.tables e below (T13.setTop (mkF m 243 #[.val (.int p0), .val (.int p1), .val (.int p2), .val (.int p3), .val (.long q4), .second, .val (.int stn), .val (.ref b5), .val (.int (p1 &&& (7 : Int32))), .val (.double (0 : UInt64)), .second, .val (.int (0 : Int32)), .val (.double r), .second, .val (.double (0 : UInt64)), .second] [(.double r)])) _
      refine XS.dload X13.here hx rfl (hb hby at_243) rfl ?_
      show Steps p.tables e below (T13.setTop (mkF m 245 #[.val (.int p0), .val (.int p1), .val (.int p2), .val (.int p3), .val (.long q4), .second, .val (.int stn), .val (.ref b5), .val (.int (p1 &&& (7 : Int32))), .val (.double (0 : UInt64)), .second, .val (.int (0 : Int32)), .val (.double r), .second, .val (.double (0 : UInt64)), .second] [(.double (0 : UInt64)), (.double r)])) _
      refine XS.dcmpS X13.here hx rfl (hb hby at_245) rfl rfl ?_
      show Steps p.tables e below (T13.setTop (mkF m 246 #[.val (.int p0), .val (.int p1), .val (.int p2), .val (.int p3), .val (.long q4), .second, .val (.int stn), .val (.ref b5), .val (.int (p1 &&& (7 : Int32))), .val (.double (0 : UInt64)), .second, .val (.int (0 : Int32)), .val (.double r), .second, .val (.double (0 : UInt64)), .second] [(.int (cmpValue (FP.dcmp r (0 : UInt64)) .l))])) _
      refine XS.ifNo X13.here hx rfl (hb hby at_246) rfl ((if0 _ _).trans (teq (own_no h_r (by decide +kernel))).2) ?_
      show Steps p.tables e below (T13.setTop (mkF m 249 #[.val (.int p0), .val (.int p1), .val (.int p2), .val (.int p3), .val (.long q4), .second, .val (.int stn), .val (.ref b5), .val (.int (p1 &&& (7 : Int32))), .val (.double (0 : UInt64)), .second, .val (.int (0 : Int32)), .val (.double r), .second, .val (.double (0 : UInt64)), .second] [])) _
      refine XS.iconst X13.here hx rfl (hb hby at_249) ?_
      show Steps p.tables e below (T13.setTop (mkF m 250 #[.val (.int p0), .val (.int p1), .val (.int p2), .val (.int p3), .val (.long q4), .second, .val (.int stn), .val (.ref b5), .val (.int (p1 &&& (7 : Int32))), .val (.double (0 : UInt64)), .second, .val (.int (0 : Int32)), .val (.double r), .second, .val (.double (0 : UInt64)), .second] [(.int (1 : Int32))])) _
      refine XS.goto X13.here hx rfl (pc0 := 250) (pc' := 254) rfl (hb hby at_250) (by decide) (by decide) ?_
      exact k
    obtain ⟨fs, hr, hrun, hended, hW, hsame⟩ := X13.leave (v := some (.int (1 : Int32))) (fun h => by rw [Bd.returns] at h; cases h)
    refine ⟨_, _, a15 _ ?_, hrun, hended, _, _, rfl, ?_, ⟨_, rfl⟩, hW, hsame.mono (by decide) (by decide)⟩
    · show Steps p.tables e below (T13.setTop (mkF m 254 #[.val (.int p0), .val (.int p1), .val (.int p2), .val (.int p3), .val (.long q4), .second, .val (.int stn), .val (.ref b5), .val (.int (p1 &&& (7 : Int32))), .val (.double (0 : UInt64)), .second, .val (.int (0 : Int32)), .val (.double r), .second, .val (.double (0 : UInt64)), .second] [(.int (1 : Int32))])) _
      exact retN X13 hx (t := .boolean) Bd.returns (by simp) (hb hby at_254) hr
    · show Q0 Z p0 p1 p2 p3 q4 h0 n0 _ T13.heap _
      rw [e13q]
      exact ⟨rfl, N13⟩
  ·
    have a16 : ∀ t, Steps p.tables e below (T8.setTop (mkF m 44 #[.val (.int p0), .val (.int p1), .val (.int p2), .val (.int p3), .val (.long q4), .second, .val (.int stn), .val (.ref b5), .val (.int (p1 &&& (7 : Int32))), .unset, .unset, .unset, .unset, .unset, .unset, .unset] [(.int (1 : Int32)), (.int (p1 &&& (7 : Int32)))])) t → Steps p.tables e below (s₁.setTop (entryFrame m #[(.int p0), (.int p1), (.int p2), (.int p3), (.long q4)] maxLocals)) t := by
      intro t k
      refine a10 t ?_
      show Steps p.tables e below (T8.setTop (mkF m 29 #[.val (.int p0), .val (.int p1), .val (.int p2), .val (.int p3), .val (.long q4), .second, .val (.int stn), .val (.ref b5), .val (.int (p1 &&& (7 : Int32))), .unset, .unset, .unset, .unset, .unset, .unset, .unset] [(.int (p1 &&& (7 : Int32)))])) _
      refine XS.ifYes X8.here hx rfl (pc0 := 29) (pc' := 41) rfl (hb hby at_29) rfl ((if0 _ _).trans (feq hc29_11).2) (by decide) (by decide) ?_
      show Steps p.tables e below (T8.setTop (mkF m 41 #[.val (.int p0), .val (.int p1), .val (.int p2), .val (.int p3), .val (.long q4), .second, .val (.int stn), .val (.ref b5), .val (.int (p1 &&& (7 : Int32))), .unset, .unset, .unset, .unset, .unset, .unset, .unset] [])) _
      refine XS.iload X8.here hx rfl (hb hby at_41) rfl ?_
      show Steps p.tables e below (T8.setTop (mkF m 43 #[.val (.int p0), .val (.int p1), .val (.int p2), .val (.int p3), .val (.long q4), .second, .val (.int stn), .val (.ref b5), .val (.int (p1 &&& (7 : Int32))), .unset, .unset, .unset, .unset, .unset, .unset, .unset] [(.int (p1 &&& (7 : Int32)))])) _
      refine XS.iconst X8.here hx rfl (hb hby at_43) ?_
      exact k
    by_cases hc44_17 : (p1 &&& (7 : Int32)) = (1 : Int32)
    ·
      have a18 : ∀ t, Steps p.tables e below (T8.setTop (mkF m 60 #[.val (.int p0), .val (.int p1), .val (.int p2), .val (.int p3), .val (.long q4), .second, .val (.int stn), .val (.ref b5), .val (.int (p1 &&& (7 : Int32))), .val (.double (FP.i2d (p2 &&& (2147483647 : Int32)))), .second, .unset, .val (.int (p2 &&& (2147483647 : Int32))), .unset, .unset, .unset] [(.int (p2 &&& (2147483647 : Int32)))])) t → Steps p.tables e below (s₁.setTop (entryFrame m #[(.int p0), (.int p1), (.int p2), (.int p3), (.long q4)] maxLocals)) t := by
        intro t k
        refine a16 t ?_
        show Steps p.tables e below (T8.setTop (mkF m 44 #[.val (.int p0), .val (.int p1), .val (.int p2), .val (.int p3), .val (.long q4), .second, .val (.int stn), .val (.ref b5), .val (.int (p1 &&& (7 : Int32))), .unset, .unset, .unset, .unset, .unset, .unset, .unset] [(.int (1 : Int32)), (.int (p1 &&& (7 : Int32)))])) _
        refine XS.icmpNo X8.here hx rfl (hb hby at_44) rfl (teq hc44_17).2 ?_
        show Steps p.tables e below (T8.setTop (mkF m 47 #[.val (.int p0), .val (.int p1), .val (.int p2), .val (.int p3), .val (.long q4), .second, .val (.int stn), .val (.ref b5), .val (.int (p1 &&& (7 : Int32))), .unset, .unset, .unset, .unset, .unset, .unset, .unset] [])) _
        refine XS.iloadN X8.here hx rfl (hb hby at_47) rfl ?_
        show Steps p.tables e below (T8.setTop (mkF m 48 #[.val (.int p0), .val (.int p1), .val (.int p2), .val (.int p3), .val (.long q4), .second, .val (.int stn), .val (.ref b5), .val (.int (p1 &&& (7 : Int32))), .unset, .unset, .unset, .unset, .unset, .unset, .unset] [(.int p2)])) _
        refine X8.ldcInt hx hown (mvT hZ (hw _ (List.mem_of_getElem? (i := 0) rfl))) (g := (mkF m 48 #[.val (.int p0), .val (.int p1), .val (.int p2), .val (.int p3), .val (.long q4), .second, .val (.int stn), .val (.ref b5), .val (.int (p1 &&& (7 : Int32))), .unset, .unset, .unset, .unset, .unset, .unset, .unset] [(.int p2)])) rfl (hb hby at_48) _ ?_
        show Steps p.tables e below (T8.setTop (mkF m 50 #[.val (.int p0), .val (.int p1), .val (.int p2), .val (.int p3), .val (.long q4), .second, .val (.int stn), .val (.ref b5), .val (.int (p1 &&& (7 : Int32))), .unset, .unset, .unset, .unset, .unset, .unset, .unset] [(.int (2147483647 : Int32)), (.int p2)])) _
        refine XS.iand X8.here hx rfl (hb hby at_50) rfl ?_
        show Steps p.tables e below (T8.setTop (mkF m 51 #[.val (.int p0), .val (.int p1), .val (.int p2), .val (.int p3), .val (.long q4), .second, .val (.int stn), .val (.ref b5), .val (.int (p1 &&& (7 : Int32))), .unset, .unset, .unset, .unset, .unset, .unset, .unset] [(.int (p2 &&& (2147483647 : Int32)))])) _
        refine XS.istore X8.here hx rfl (hb hby at_51) rfl (l' := #[.val (.int p0), .val (.int p1), .val (.int p2), .val (.int p3), .val (.long q4), .second, .val (.int stn), .val (.ref b5), .val (.int (p1 &&& (7 : Int32))), .unset, .unset, .unset, .val (.int (p2 &&& (2147483647 : Int32))), .unset, .unset, .unset]) rfl ?_
        show Steps p.tables e below (T8.setTop (mkF m 53 #[.val (.int p0), .val (.int p1), .val (.int p2), .val (.int p3), .val (.long q4), .second, .val (.int stn), .val (.ref b5), .val (.int (p1 &&& (7 : Int32))), .unset, .unset, .unset, .val (.int (p2 &&& (2147483647 : Int32))), .unset, .unset, .unset] [])) _
        refine XS.iload X8.here hx rfl (hb hby at_53) rfl ?_
        show Steps p.tables e below (T8.setTop (mkF m 55 #[.val (.int p0), .val (.int p1), .val (.int p2), .val (.int p3), .val (.long q4), .second, .val (.int stn), .val (.ref b5), .val (.int (p1 &&& (7 : Int32))), .unset, .unset, .unset, .val (.int (p2 &&& (2147483647 : Int32))), .unset, .unset, .unset] [(.int (p2 &&& (2147483647 : Int32)))])) _
        refine XS.i2dS X8.here hx rfl (hb hby at_55) rfl rfl ?_
        show Steps p.tables e below (T8.setTop (mkF m 56 #[.val (.int p0), .val (.int p1), .val (.int p2), .val (.int p3), .val (.long q4), .second, .val (.int stn), .val (.ref b5), .val (.int (p1 &&& (7 : Int32))), .unset, .unset, .unset, .val (.int (p2 &&& (2147483647 : Int32))), .unset, .unset, .unset] [(.double (FP.i2d (p2 &&& (2147483647 : Int32))))])) _
        refine XS.dstore X8.here hx rfl (hb hby at_56) rfl (l' := #[.val (.int p0), .val (.int p1), .val (.int p2), .val (.int p3), .val (.long q4), .second, .val (.int stn), .val (.ref b5), .val (.int (p1 &&& (7 : Int32))), .val (.double (FP.i2d (p2 &&& (2147483647 : Int32)))), .second, .unset, .val (.int (p2 &&& (2147483647 : Int32))), .unset, .unset, .unset]) rfl ?_
        show Steps p.tables e below (T8.setTop (mkF m 58 #[.val (.int p0), .val (.int p1), .val (.int p2), .val (.int p3), .val (.long q4), .second, .val (.int stn), .val (.ref b5), .val (.int (p1 &&& (7 : Int32))), .val (.double (FP.i2d (p2 &&& (2147483647 : Int32)))), .second, .unset, .val (.int (p2 &&& (2147483647 : Int32))), .unset, .unset, .unset] [])) _
        refine XS.iload X8.here hx rfl (hb hby at_58) rfl ?_
        exact k
      by_cases hc60_19 : (p2 &&& (2147483647 : Int32)) = (0 : Int32)
      ·
        have a20 : ∀ t, Steps p.tables e below (T8.setTop (mkF m 222 #[.val (.int p0), .val (.int p1), .val (.int p2), .val (.int p3), .val (.long q4), .second, .val (.int stn), .val (.ref b5), .val (.int (p1 &&& (7 : Int32))), .val (.double (FP.i2d (p2 &&& (2147483647 : Int32)))), .second, .val (.int (0 : Int32)), .val (.int (p2 &&& (2147483647 : Int32))), .unset, .unset, .unset] [(.double (FP.i2d (p2 &&& (2147483647 : Int32)))), (.ref b5)])) t → Steps p.tables e below (s₁.setTop (entryFrame m #[(.int p0), (.int p1), (.int p2), (.int p3), (.long q4)] maxLocals)) t := by
          intro t k
          refine a18 t ?_
          show Steps p.tables e below (T8.setTop (mkF m 60 #[.val (.int p0), .val (.int p1), .val (.int p2), .val (.int p3), .val (.long q4), .second, .val (.int stn), .val (.ref b5), .val (.int (p1 &&& (7 : Int32))), .val (.double (FP.i2d (p2 &&& (2147483647 : Int32)))), .second, .unset, .val (.int (p2 &&& (2147483647 : Int32))), .unset, .unset, .unset] [(.int (p2 &&& (2147483647 : Int32)))])) _
          refine XS.ifYes X8.here hx rfl (pc0 := 60) (pc' := 67) rfl (hb hby at_60) rfl ((if0 _ _).trans (teq hc60_19).1) (by decide) (by decide) ?_
          show Steps p.tables e below (T8.setTop (mkF m 67 #[.val (.int p0), .val (.int p1), .val (.int p2), .val (.int p3), .val (.long q4), .second, .val (.int stn), .val (.ref b5), .val (.int (p1 &&& (7 : Int32))), .val (.double (FP.i2d (p2 &&& (2147483647 : Int32)))), .second, .unset, .val (.int (p2 &&& (2147483647 : Int32))), .unset, .unset, .unset] [])) _
          refine XS.iconst X8.here hx rfl (hb hby at_67) ?_
          show Steps p.tables e below (T8.setTop (mkF m 68 #[.val (.int p0), .val (.int p1), .val (.int p2), .val (.int p3), .val (.long q4), .second, .val (.int stn), .val (.ref b5), .val (.int (p1 &&& (7 : Int32))), .val (.double (FP.i2d (p2 &&& (2147483647 : Int32)))), .second, .unset, .val (.int (p2 &&& (2147483647 : Int32))), .unset, .unset, .unset] [(.int (0 : Int32))])) _
          refine XS.istore X8.here hx rfl (hb hby at_68) rfl (l' := #[.val (.int p0), .val (.int p1), .val (.int p2), .val (.int p3), .val (.long q4), .second, .val (.int stn), .val (.ref b5), .val (.int (p1 &&& (7 : Int32))), .val (.double (FP.i2d (p2 &&& (2147483647 : Int32)))), .second, .val (.int (0 : Int32)), .val (.int (p2 &&& (2147483647 : Int32))), .unset, .unset, .unset]) rfl ?_
          show Steps p.tables e below (T8.setTop (mkF m 70 #[.val (.int p0), .val (.int p1), .val (.int p2), .val (.int p3), .val (.long q4), .second, .val (.int stn), .val (.ref b5), .val (.int (p1 &&& (7 : Int32))), .val (.double (FP.i2d (p2 &&& (2147483647 : Int32)))), .second, .val (.int (0 : Int32)), .val (.int (p2 &&& (2147483647 : Int32))), .unset, .unset, .unset] [])) _
          refine XS.goto X8.here hx rfl (pc0 := 70) (pc' := 218) rfl (hb hby at_70) (by decide) (by decide) ?_
          show Steps p.tables e below (T8.setTop (mkF m 218 #[.val (.int p0), .val (.int p1), .val (.int p2), .val (.int p3), .val (.long q4), .second, .val (.int stn), .val (.ref b5), .val (.int (p1 &&& (7 : Int32))), .val (.double (FP.i2d (p2 &&& (2147483647 : Int32)))), .second, .val (.int (0 : Int32)), .val (.int (p2 &&& (2147483647 : Int32))), .unset, .unset, .unset] [])) _
          refine XS.aload X8.here hx rfl (hb hby at_218) rfl rfl ?_
          show Steps p.tables e below (T8.setTop (mkF m 220 #[.val (.int p0), .val (.int p1), .val (.int p2), .val (.int p3), .val (.long q4), .second, .val (.int stn), .val (.ref b5), .val (.int (p1 &&& (7 : Int32))), .val (.double (FP.i2d (p2 &&& (2147483647 : Int32)))), .second, .val (.int (0 : Int32)), .val (.int (p2 &&& (2147483647 : Int32))), .unset, .unset, .unset] [(.ref b5)])) _
          refine XS.dload X8.here hx rfl (hb hby at_220) rfl ?_
          exact k
        obtain ⟨cq21, kq21, q21a, q21b, q21c⟩ := isOf hZ rfl (A5.keep K8q)
        obtain ⟨_, _, ⟨T21, L21, k21, n21⟩, -, X21, ⟨Lc21, hQ21, l21, y21, z21⟩, st21⟩ := X8.virtualBack hx (y := (⟨"com/example/placewright/placewright/scheme/Broadcast", "bandwidth", "(D)D"⟩ : MethodName)) (z := (⟨"com/example/placewright/placewright/scheme/Broadcast", "bandwidth", "(D)D"⟩ : MethodName)) hown (mvT hZ (hw _ (List.mem_of_getElem? (i := 22) rfl))) (mvT hZ (hw _ (List.mem_of_getElem? (i := 23) rfl))) (notFace_of_selects (args := #[]) (mvT hZ (hw _ (List.mem_of_getElem? (i := 25) rfl)))) (mvT hZ (hw _ (List.mem_of_getElem? (i := 25) rfl))) (mvT hZ (hw _ (List.mem_of_getElem? (i := 24) rfl))) (by decide) (backOf (W := 0) (rmB l Z a0 hw [] b5 (FP.i2d (p2 &&& (2147483647 : Int32))) stn T8.heap n0 (Nat.le_trans (Nat.le_trans Z0 E5.1) K8q.1) G8_0) hZ (hw _ (List.mem_of_getElem? (i := 26) rfl)) (hw _ (List.mem_of_getElem? (i := 7) rfl)) (by decide) (by decide)) q21a q21c (g := (mkF m 222 #[.val (.int p0), .val (.int p1), .val (.int p2), .val (.int p3), .val (.long q4), .second, .val (.int stn), .val (.ref b5), .val (.int (p1 &&& (7 : Int32))), .val (.double (FP.i2d (p2 &&& (2147483647 : Int32)))), .second, .val (.int (0 : Int32)), .val (.int (p2 &&& (2147483647 : Int32))), .unset, .unset, .unset] [(.double (FP.i2d (p2 &&& (2147483647 : Int32)))), (.ref b5)])) rfl (by rw [hml]; rfl) (Steps.refl _) (argsL := [(.double (FP.i2d (p2 &&& (2147483647 : Int32))))]) (rest := []) (lenOf own_pd3 rfl) rfl (by show 2 * 0 + _ ≤ _; exact Nat.le_of_eq rfl) (hb hby at_222) (fun _ _ => ⟨rfl, rfl, (by decide : 1 + 0 ≤ _), (by decide : 1 + 0 ≤ _)⟩)
        dsimp only [Pt.U, Pt.locs, Pt.cells, Pt.slots] at X21 l21 y21 z21 st21 hQ21
        subst l21 y21 z21
        obtain ⟨rfl, N21q, e21q⟩ := hQ21
        have N21 := Fr.app N8 N21q
        have a22 : ∀ t, Steps p.tables e below (T21.setTop (mkF m 225 #[.val (.int p0), .val (.int p1), .val (.int p2), .val (.int p3), .val (.long q4), .second, .val (.int stn), .val (.ref b5), .val (.int (p1 &&& (7 : Int32))), .val (.double (FP.i2d (p2 &&& (2147483647 : Int32)))), .second, .val (.int (0 : Int32)), .val (.int (p2 &&& (2147483647 : Int32))), .unset, .unset, .unset] [(.double (if FP.dcmp (FP.i2d (p2 &&& (2147483647 : Int32))) 0 = some .gt then FP.i2d stn else 0))])) t → Steps p.tables e below (s₁.setTop (entryFrame m #[(.int p0), (.int p1), (.int p2), (.int p3), (.long q4)] maxLocals)) t := fun t k => a20 t (st21.trans k)
        obtain ⟨r, h_r⟩ : ∃ z : UInt64, z = (if FP.dcmp (FP.i2d (p2 &&& (2147483647 : Int32))) 0 = some .gt then FP.i2d stn else 0) := ⟨_, rfl⟩
        rw [← h_r] at a22
        have a23 : ∀ t, Steps p.tables e below (T21.setTop (mkF m 254 #[.val (.int p0), .val (.int p1), .val (.int p2), .val (.int p3), .val (.long q4), .second, .val (.int stn), .val (.ref b5), .val (.int (p1 &&& (7 : Int32))), .val (.double (FP.i2d (p2 &&& (2147483647 : Int32)))), .second, .val (.int (0 : Int32)), .val (.double r), .second, .val (.double (0 : UInt64)), .second] [(.int (1 : Int32))])) t → Steps p.tables e below (s₁.setTop (entryFrame m #[(.int p0), (.int p1), (.int p2), (.int p3), (.long q4)] maxLocals)) t := by
          intro t k
          refine a22 t ?_
          show Steps p.tables e below (T21.setTop (mkF m 225 #[.val (.int p0), .val (.int p1), .val (.int p2), .val (.int p3), .val (.long q4), .second, .val (.int stn), .val (.ref b5), .val (.int (p1 &&& (7 : Int32))), .val (.double (FP.i2d (p2 &&& (2147483647 : Int32)))), .second, .val (.int (0 : Int32)), .val (.int (p2 &&& (2147483647 : Int32))), .unset, .unset, .unset] [(.double r)])) _
          refine XS.dstore X21.here hx rfl (hb hby at_225) rfl (l' := #[.val (.int p0), .val (.int p1), .val (.int p2), .val (.int p3), .val (.long q4), .second, .val (.int stn), .val (.ref b5), .val (.int (p1 &&& (7 : Int32))), .val (.double (FP.i2d (p2 &&& (2147483647 : Int32)))), .second, .val (.int (0 : Int32)), .val (.double r), .second, .unset, .unset]) rfl ?_
          show Steps p.tables e below (T21.setTop (mkF m 227 #[.val (.int p0), .val (.int p1), .val (.int p2), .val (.int p3), .val (.long q4), .second, .val (.int stn), .val (.ref b5), .val (.int (p1 &&& (7 : Int32))), .val (.double (FP.i2d (p2 &&& (2147483647 : Int32)))), .second, .val (.int (0 : Int32)), .val (.double r), .second, .unset, .unset] [])) _
          refine XS.iload X21.here hx rfl (hb hby at_227) rfl ?_
          show Steps p.tables e below (T21.setTop (mkF m 229 #[.val (.int p0), .val (.int p1), .val (.int p2), .val (.int p3), .val (.long q4), .second, .val (.int stn), .val (.ref b5), .val (.int (p1 &&& (7 : Int32))), .val (.double (FP.i2d (p2 &&& (2147483647 : Int32)))), .second, .val (.int (0 : Int32)), .val (.double r), .second, .unset, .unset] [(.int (0 : Int32))])) _
          refine XS.ifYes X21.here hx rfl (pc0 := 229) (pc' := 238) rfl (hb hby at_229) rfl ((if0 _ _).trans (teq rfl).1) (by decide) (by decide) ?_
          show Steps p.tables e below (T21.setTop (mkF m 238 #[.val (.int p0), .val (.int p1), .val (.int p2), .val (.int p3), .val (.long q4), .second, .val (.int stn), .val (.ref b5), .val (.int (p1 &&& (7 : Int32))), .val (.double (FP.i2d (p2 &&& (2147483647 : Int32)))), .second, .val (.int (0 : Int32)), .val (.double r), .second, .unset, .unset] [])) _
          refine XS.dconst0 X21.here hx rfl (hb hby at_238) (v := 0) rfl ?_
          show Steps p.tables e below (T21.setTop (mkF m 239 #[.val (.int p0), .val (.int p1), .val (.int p2), .val (.int p3), .val (.long q4), .second, .val (.int stn), .val (.ref b5), .val (.int (p1 &&& (7 : Int32))), .val (.double (FP.i2d (p2 &&& (2147483647 : Int32)))), .second, .val (.int (0 : Int32)), .val (.double r), .second, .unset, .unset] [(.double (0 : UInt64))])) _
          refine XS.dstore X21.here hx rfl (hb hby at_239) rfl (l' := #[.val (.int p0), .val (.int p1), .val (.int p2), .val (.int p3), .val (.long q4), .second, .val (.int stn), .val (.ref b5), .val (.int (p1 &&& (7 : Int32))), .val (.double (FP.i2d (p2 &&& (2147483647 : Int32)))), .second, .val (.int (0 : Int32)), .val (.double r), .second, .val (.double (0 : UInt64)), .second]) rfl ?_
          show Steps p.tables e below (T21.setTop (mkF m 241 #[.val (.int p0), .val (.int p1), .val (.int p2), .val (.int p3), .val (.long q4), .second, .val (.int stn), .val (.ref b5), .val (.int (p1 &&& (7 : Int32))), .val (.double (FP.i2d (p2 &&& (2147483647 : Int32)))), .second, .val (.int (0 : Int32)), .val (.double r), .second, .val (.double (0 : UInt64)), .second] [])) _
          refine XS.dload X21.here hx rfl (hb hby at_241) rfl ?_
          show Steps p.tables e below (T21.setTop (mkF m 243 #[.val (.int p0), .val (.int p1), .val (.int p2), .val (.int p3), .val (.long q4), .second, .val (.int stn), .val (.ref b5), .val (.int (p1 &&& (7 : Int32))), .val (.double (FP.i2d (p2 &&& (2147483647 : Int32)))), .second, .val (.int (0 : Int32)), .val (.double r), .second, .val (.double (0 : UInt64)), .second] [(.double r)])) _
          refine XS.dload X21.here hx rfl (hb hby at_243) rfl ?_
          show Steps p.tables e below (T21.setTop (mkF m 245 #[.val (.int p0), .val (.int p1), .val (.int p2), .val (.int p3), .val (.long q4), .second, .val (.int stn), .val (.ref b5), .val (.int (p1 &&& (7 : Int32))), .val (.double (FP.i2d (p2 &&& (2147483647 : Int32)))), .second, .val (.int (0 : Int32)), .val (.double r), .second, .val (.double (0 : UInt64)), .second] [(.double (0 : UInt64)), (.double r)])) _
          refine XS.dcmpS X21.here hx rfl (hb hby at_245) rfl rfl ?_
          show Steps p.tables e below (T21.setTop (mkF m 246 #[.val (.int p0), .val (.int p1), .val (.int p2), .val (.int p3), .val (.long q4), .second, .val (.int stn), .val (.ref b5), .val (.int (p1 &&& (7 : Int32))), .val (.double (FP.i2d (p2 &&& (2147483647 : Int32)))), .second, .val (.int (0 : Int32)), .val (.double r), .second, .val (.double (0 : UInt64)), .second] [(.int (cmpValue (FP.dcmp r (0 : UInt64)) .l))])) _
          refine XS.ifNo X21.here hx rfl (hb hby at_246) rfl ((if0 _ _).trans (teq (own_no h_r (own_eq0 (own_z32 hc60_19)))).2) ?_
          show Steps p.tables e below (T21.setTop (mkF m 249 #[.val (.int p0), .val (.int p1), .val (.int p2), .val (.int p3), .val (.long q4), .second, .val (.int stn), .val (.ref b5), .val (.int (p1 &&& (7 : Int32))), .val (.double (FP.i2d (p2 &&& (2147483647 : Int32)))), .second, .val (.int (0 : Int32)), .val (.double r), .second, .val (.double (0 : UInt64)), .second] [])) _
          refine XS.iconst X21.here hx rfl (hb hby at_249) ?_
          show Steps p.tables e below (T21.setTop (mkF m 250 #[.val (.int p0), .val (.int p1), .val (.int p2), .val (.int p3), .val (.long q4), .second, .val (.int stn), .val (.ref b5), .val (.int (p1 &&& (7 : Int32))), .val (.double (FP.i2d (p2 &&& (2147483647 : Int32)))), .second, .val (.int (0 : Int32)), .val (.double r), .second, .val (.double (0 : UInt64)), .second] [(.int (1 : Int32))])) _
          refine XS.goto X21.here hx rfl (pc0 := 250) (pc' := 254) rfl (hb hby at_250) (by decide) (by decide) ?_
          exact k
        obtain ⟨fs, hr, hrun, hended, hW, hsame⟩ := X21.leave (v := some (.int (1 : Int32))) (fun h => by rw [Bd.returns] at h; cases h)
        refine ⟨_, _, a23 _ ?_, hrun, hended, _, _, rfl, ?_, ⟨_, rfl⟩, hW, hsame.mono (by decide) (by decide)⟩
        · show Steps p.tables e below (T21.setTop (mkF m 254 #[.val (.int p0), .val (.int p1), .val (.int p2), .val (.int p3), .val (.long q4), .second, .val (.int stn), .val (.ref b5), .val (.int (p1 &&& (7 : Int32))), .val (.double (FP.i2d (p2 &&& (2147483647 : Int32)))), .second, .val (.int (0 : Int32)), .val (.double r), .second, .val (.double (0 : UInt64)), .second] [(.int (1 : Int32))])) _
          exact retN X21 hx (t := .boolean) Bd.returns (by simp) (hb hby at_254) hr
        · show Q0 Z p0 p1 p2 p3 q4 h0 n0 _ T21.heap _
          rw [e21q]
          exact ⟨rfl, N21⟩
      ·
        have a24 : ∀ t, Steps p.tables e below (T8.setTop (mkF m 222 #[.val (.int p0), .val (.int p1), .val (.int p2), .val (.int p3), .val (.long q4), .second, .val (.int stn), .val (.ref b5), .val (.int (p1 &&& (7 : Int32))), .val (.double (FP.i2d (p2 &&& (2147483647 : Int32)))), .second, .val (.int (1 : Int32)), .val (.int (p2 &&& (2147483647 : Int32))), .unset, .unset, .unset] [(.double (FP.i2d (p2 &&& (2147483647 : Int32)))), (.ref b5)])) t → Steps p.tables e below (s₁.setTop (entryFrame m #[(.int p0), (.int p1), (.int p2), (.int p3), (.long q4)] maxLocals)) t := by
          intro t k
          refine a18 t ?_
          show Steps p.tables e below (T8.setTop (mkF m 60 #[.val (.int p0), .val (.int p1), .val (.int p2), .val (.int p3), .val (.long q4), .second, .val (.int stn), .val (.ref b5), .val (.int (p1 &&& (7 : Int32))), .val (.double (FP.i2d (p2 &&& (2147483647 : Int32)))), .second, .unset, .val (.int (p2 &&& (2147483647 : Int32))), .unset, .unset, .unset] [(.int (p2 &&& (2147483647 : Int32)))])) _
          refine XS.ifNo X8.here hx rfl (hb hby at_60) rfl ((if0 _ _).trans (feq hc60_19).1) ?_
          show Steps p.tables e below (T8.setTop (mkF m 63 #[.val (.int p0), .val (.int p1), .val (.int p2), .val (.int p3), .val (.long q4), .second, .val (.int stn), .val (.ref b5), .val (.int (p1 &&& (7 : Int32))), .val (.double (FP.i2d (p2 &&& (2147483647 : Int32)))), .second, .unset, .val (.int (p2 &&& (2147483647 : Int32))), .unset, .unset, .unset] [])) _
          refine XS.iconst X8.here hx rfl (hb hby at_63) ?_
          show Steps p.tables e below (T8.setTop (mkF m 64 #[.val (.int p0), .val (.int p1), .val (.int p2), .val (.int p3), .val (.long q4), .second, .val (.int stn), .val (.ref b5), .val (.int (p1 &&& (7 : Int32))), .val (.double (FP.i2d (p2 &&& (2147483647 : Int32)))), .second, .unset, .val (.int (p2 &&& (2147483647 : Int32))), .unset, .unset, .unset] [(.int (1 : Int32))])) _
          refine XS.goto X8.here hx rfl (pc0 := 64) (pc' := 68) rfl (hb hby at_64) (by decide) (by decide) ?_
          show Steps p.tables e below (T8.setTop (mkF m 68 #[.val (.int p0), .val (.int p1), .val (.int p2), .val (.int p3), .val (.long q4), .second, .val (.int stn), .val (.ref b5), .val (.int (p1 &&& (7 : Int32))), .val (.double (FP.i2d (p2 &&& (2147483647 : Int32)))), .second, .unset, .val (.int (p2 &&& (2147483647 : Int32))), .unset, .unset, .unset] [(.int (1 : Int32))])) _
          refine XS.istore X8.here hx rfl (hb hby at_68) rfl (l' := #[.val (.int p0), .val (.int p1), .val (.int p2), .val (.int p3), .val (.long q4), .second, .val (.int stn), .val (.ref b5), .val (.int (p1 &&& (7 : Int32))), .val (.double (FP.i2d (p2 &&& (2147483647 : Int32)))), .second, .val (.int (1 : Int32)), .val (.int (p2 &&& (2147483647 : Int32))), .unset, .unset, .unset]) rfl ?_
          show Steps p.tables e below (T8.setTop (mkF m 70 #[.val (.int p0), .val (.int p1), .val (.int p2), .val (.int p3), .val (.long q4), .second, .val (.int stn), .val (.ref b5), .val (.int (p1 &&& (7 : Int32))), .val (.double (FP.i2d (p2 &&& (2147483647 : Int32)))), .second, .val (.int (1 : Int32)), .val (.int (p2 &&& (2147483647 : Int32))), .unset, .unset, .unset] [])) _
          refine XS.goto X8.here hx rfl (pc0 := 70) (pc' := 218) rfl (hb hby at_70) (by decide) (by decide) ?_
          show Steps p.tables e below (T8.setTop (mkF m 218 #[.val (.int p0), .val (.int p1), .val (.int p2), .val (.int p3), .val (.long q4), .second, .val (.int stn), .val (.ref b5), .val (.int (p1 &&& (7 : Int32))), .val (.double (FP.i2d (p2 &&& (2147483647 : Int32)))), .second, .val (.int (1 : Int32)), .val (.int (p2 &&& (2147483647 : Int32))), .unset, .unset, .unset] [])) _
          refine XS.aload X8.here hx rfl (hb hby at_218) rfl rfl ?_
          show Steps p.tables e below (T8.setTop (mkF m 220 #[.val (.int p0), .val (.int p1), .val (.int p2), .val (.int p3), .val (.long q4), .second, .val (.int stn), .val (.ref b5), .val (.int (p1 &&& (7 : Int32))), .val (.double (FP.i2d (p2 &&& (2147483647 : Int32)))), .second, .val (.int (1 : Int32)), .val (.int (p2 &&& (2147483647 : Int32))), .unset, .unset, .unset] [(.ref b5)])) _
          refine XS.dload X8.here hx rfl (hb hby at_220) rfl ?_
          exact k
        obtain ⟨cq25, kq25, q25a, q25b, q25c⟩ := isOf hZ rfl (A5.keep K8q)
        obtain ⟨_, _, ⟨T25, L25, k25, n25⟩, -, X25, ⟨Lc25, hQ25, l25, y25, z25⟩, st25⟩ := X8.virtualBack hx (y := (⟨"com/example/placewright/placewright/scheme/Broadcast", "bandwidth", "(D)D"⟩ : MethodName)) (z := (⟨"com/example/placewright/placewright/scheme/Broadcast", "bandwidth", "(D)D"⟩ : MethodName)) hown (mvT hZ (hw _ (List.mem_of_getElem? (i := 22) rfl))) (mvT hZ (hw _ (List.mem_of_getElem? (i := 23) rfl))) (notFace_of_selects (args := #[]) (mvT hZ (hw _ (List.mem_of_getElem? (i := 25) rfl)))) (mvT hZ (hw _ (List.mem_of_getElem? (i := 25) rfl))) (mvT hZ (hw _ (List.mem_of_getElem? (i := 24) rfl))) (by decide) (backOf (W := 0) (rmB l Z a0 hw [] b5 (FP.i2d (p2 &&& (2147483647 : Int32))) stn T8.heap n0 (Nat.le_trans (Nat.le_trans Z0 E5.1) K8q.1) G8_0) hZ (hw _ (List.mem_of_getElem? (i := 26) rfl)) (hw _ (List.mem_of_getElem? (i := 7) rfl)) (by decide) (by decide)) q25a q25c (g := (mkF m 222 #[.val (.int p0), .val (.int p1), .val (.int p2), .val (.int p3), .val (.long q4), .second, .val (.int stn), .val (.ref b5), .val (.int (p1 &&& (7 : Int32))), .val (.double (FP.i2d (p2 &&& (2147483647 : Int32)))), .second, .val (.int (1 : Int32)), .val (.int (p2 &&& (2147483647 : Int32))), .unset, .unset, .unset] [(.double (FP.i2d (p2 &&& (2147483647 : Int32)))), (.ref b5)])) rfl (by rw [hml]; rfl) (Steps.refl _) (argsL := [(.double (FP.i2d (p2 &&& (2147483647 : Int32))))]) (rest := []) (lenOf own_pd3 rfl) rfl (by show 2 * 0 + _ ≤ _; exact Nat.le_of_eq rfl) (hb hby at_222) (fun _ _ => ⟨rfl, rfl, (by decide : 1 + 0 ≤ _), (by decide : 1 + 0 ≤ _)⟩)
        dsimp only [Pt.U, Pt.locs, Pt.cells, Pt.slots] at X25 l25 y25 z25 st25 hQ25
        subst l25 y25 z25
        obtain ⟨rfl, N25q, e25q⟩ := hQ25
        have N25 := Fr.app N8 N25q
        have a26 : ∀ t, Steps p.tables e below (T25.setTop (mkF m 225 #[.val (.int p0), .val (.int p1), .val (.int p2), .val (.int p3), .val (.long q4), .second, .val (.int stn), .val (.ref b5), .val (.int (p1 &&& (7 : Int32))), .val (.double (FP.i2d (p2 &&& (2147483647 : Int32)))), .second, .val (.int (1 : Int32)), .val (.int (p2 &&& (2147483647 : Int32))), .unset, .unset, .unset] [(.double (if FP.dcmp (FP.i2d (p2 &&& (2147483647 : Int32))) 0 = some .gt then FP.i2d stn else 0))])) t → Steps p.tables e below (s₁.setTop (entryFrame m #[(.int p0), (.int p1), (.int p2), (.int p3), (.long q4)] maxLocals)) t := fun t k => a24 t (st25.trans k)
        obtain ⟨r, h_r⟩ : ∃ z : UInt64, z = (if FP.dcmp (FP.i2d (p2 &&& (2147483647 : Int32))) 0 = some .gt then FP.i2d stn else 0) := ⟨_, rfl⟩
        rw [← h_r] at a26
        have a27 : ∀ t, Steps p.tables e below (T25.setTop (mkF m 254 #[.val (.int p0), .val (.int p1), .val (.int p2), .val (.int p3), .val (.long q4), .second, .val (.int stn), .val (.ref b5), .val (.int (p1 &&& (7 : Int32))), .val (.double (FP.i2d (p2 &&& (2147483647 : Int32)))), .second, .val (.int (1 : Int32)), .val (.double r), .second, .val (.double (FP.i2d stn)), .second] [(.int (1 : Int32))])) t → Steps p.tables e below (s₁.setTop (entryFrame m #[(.int p0), (.int p1), (.int p2), (.int p3), (.long q4)] maxLocals)) t := by
          intro t k
          refine a26 t ?_
          show Steps p.tables e below (T25.setTop (mkF m 225 #[.val (.int p0), .val (.int p1), .val (.int p2), .val (.int p3), .val (.long q4), .second, .val (.int stn), .val (.ref b5), .val (.int (p1 &&& (7 : Int32))), .val (.double (FP.i2d (p2 &&& (2147483647 : Int32)))), .second, .val (.int (1 : Int32)), .val (.int (p2 &&& (2147483647 : Int32))), .unset, .unset, .unset] [(.double r)])) _
          refine XS.dstore X25.here hx rfl (hb hby at_225) rfl (l' := #[.val (.int p0), .val (.int p1), .val (.int p2), .val (.int p3), .val (.long q4), .second, .val (.int stn), .val (.ref b5), .val (.int (p1 &&& (7 : Int32))), .val (.double (FP.i2d (p2 &&& (2147483647 : Int32)))), .second, .val (.int (1 : Int32)), .val (.double r), .second, .unset, .unset]) rfl ?_
          show Steps p.tables e below (T25.setTop (mkF m 227 #[.val (.int p0), .val (.int p1), .val (.int p2), .val (.int p3), .val (.long q4), .second, .val (.int stn), .val (.ref b5), .val (.int (p1 &&& (7 : Int32))), .val (.double (FP.i2d (p2 &&& (2147483647 : Int32)))), .second, .val (.int (1 : Int32)), .val (.double r), .second, .unset, .unset] [])) _
          refine XS.iload X25.here hx rfl (hb hby at_227) rfl ?_
          show Steps p.tables e below (T25.setTop (mkF m 229 #[.val (.int p0), .val (.int p1), .val (.int p2), .val (.int p3), .val (.long q4), .second, .val (.int stn), .val (.ref b5), .val (.int (p1 &&& (7 : Int32))), .val (.double (FP.i2d (p2 &&& (2147483647 : Int32)))), .second, .val (.int (1 : Int32)), .val (.double r), .second, .unset, .unset] [(.int (1 : Int32))])) _
          refine XS.ifNo X25.here hx rfl (hb hby at_229) rfl ((if0 _ _).trans (feq (by decide)).1) ?_
          show Steps p.tables e below (T25.setTop (mkF m 232 #[.val (.int p0), .val (.int p1), .val (.int p2), .val (.int p3), .val (.long q4), .second, .val (.int stn), .val (.ref b5), .val (.int (p1 &&& (7 : Int32))), .val (.double (FP.i2d (p2 &&& (2147483647 : Int32)))), .second, .val (.int (1 : Int32)), .val (.double r), .second, .unset, .unset] [])) _
          refine XS.iload X25.here hx rfl (hb hby at_232) rfl ?_
          show Steps p.tables e below (T25.setTop (mkF m 234 #[.val (.int p0), .val (.int p1), .val (.int p2), .val (.int p3), .val (.long q4), .second, .val (.int stn), .val (.ref b5), .val (.int (p1 &&& (7 : Int32))), .val (.double (FP.i2d (p2 &&& (2147483647 : Int32)))), .second, .val (.int (1 : Int32)), .val (.double r), .second, .unset, .unset] [(.int stn)])) _
          refine XS.i2dS X25.here hx rfl (hb hby at_234) rfl rfl ?_
          show Steps p.tables e below (T25.setTop (mkF m 235 #[.val (.int p0), .val (.int p1), .val (.int p2), .val (.int p3), .val (.long q4), .second, .val (.int stn), .val (.ref b5), .val (.int (p1 &&& (7 : Int32))), .val (.double (FP.i2d (p2 &&& (2147483647 : Int32)))), .second, .val (.int (1 : Int32)), .val (.double r), .second, .unset, .unset] [(.double (FP.i2d stn))])) _
          refine XS.goto X25.here hx rfl (pc0 := 235) (pc' := 239) rfl (hb hby at_235) (by decide) (by decide) ?_
          show Steps p.tables e below (T25.setTop (mkF m 239 #[.val (.int p0), .val (.int p1), .val (.int p2), .val (.int p3), .val (.long q4), .second, .val (.int stn), .val (.ref b5), .val (.int (p1 &&& (7 : Int32))), .val (.double (FP.i2d (p2 &&& (2147483647 : Int32)))), .second, .val (.int (1 : Int32)), .val (.double r), .second, .unset, .unset] [(.double (FP.i2d stn))])) _
          refine XS.dstore X25.here hx rfl (hb hby at_239) rfl (l' := #[.val (.int p0), .val (.int p1), .val (.int p2), .val (.int p3), .val (.long q4), .second, .val (.int stn), .val (.ref b5), .val (.int (p1 &&& (7 : Int32))), .val (.double (FP.i2d (p2 &&& (2147483647 : Int32)))), .second, .val (.int (1 : Int32)), .val (.double r), .second, .val (.double (FP.i2d stn)), .second]) rfl ?_
          show Steps p.tables e below (T25.setTop (mkF m 241 #[.val (.int p0), .val (.int p1), .val (.int p2), .val (.int p3), .val (.long q4), .second, .val (.int stn), .val (.ref b5), .val (.int (p1 &&& (7 : Int32))), .val (.double (FP.i2d (p2 &&& (2147483647 : Int32)))), .second, .val (.int (1 : Int32)), .val (.double r), .second, .val (.double (FP.i2d stn)), .second] [])) _
          refine XS.dload X25.here hx rfl (hb hby at_241) rfl ?_
          show Steps p.tables e below (T25.setTop (mkF m 243 #[.val (.int p0), .val (.int p1), .val (.int p2), .val (.int p3), .val (.long q4), .second, .val (.int stn), .val (.ref b5), .val (.int (p1 &&& (7 : Int32))), .val (.double (FP.i2d (p2 &&& (2147483647 : Int32)))), .second, .val (.int (1 : Int32)), .val (.double r), .second, .val (.double (FP.i2d stn)), .second] [(.double r)])) _
          refine XS.dload X25.here hx rfl (hb hby at_243) rfl ?_
          show Steps p.tables e below (T25.setTop (mkF m 245 #[.val (.int p0), .val (.int p1), .val (.int p2), .val (.int p3), .val (.long q4), .second, .val (.int stn), .val (.ref b5), .val (.int (p1 &&& (7 : Int32))), .val (.double (FP.i2d (p2 &&& (2147483647 : Int32)))), .second, .val (.int (1 : Int32)), .val (.double r), .second, .val (.double (FP.i2d stn)), .second] [(.double (FP.i2d stn)), (.double r)])) _
          refine XS.dcmpS X25.here hx rfl (hb hby at_245) rfl rfl ?_
          show Steps p.tables e below (T25.setTop (mkF m 246 #[.val (.int p0), .val (.int p1), .val (.int p2), .val (.int p3), .val (.long q4), .second, .val (.int stn), .val (.ref b5), .val (.int (p1 &&& (7 : Int32))), .val (.double (FP.i2d (p2 &&& (2147483647 : Int32)))), .second, .val (.int (1 : Int32)), .val (.double r), .second, .val (.double (FP.i2d stn)), .second] [(.int (cmpValue (FP.dcmp r (FP.i2d stn)) .l))])) _
          refine XS.ifNo X25.here hx rfl (hb hby at_246) rfl ((if0 _ _).trans (teq (own_yes h_r (own_gt0 (dy_i2d _) (own_m31_pos hc60_19)))).2) ?_
          show Steps p.tables e below (T25.setTop (mkF m 249 #[.val (.int p0), .val (.int p1), .val (.int p2), .val (.int p3), .val (.long q4), .second, .val (.int stn), .val (.ref b5), .val (.int (p1 &&& (7 : Int32))), .val (.double (FP.i2d (p2 &&& (2147483647 : Int32)))), .second, .val (.int (1 : Int32)), .val (.double r), .second, .val (.double (FP.i2d stn)), .second] [])) _
          refine XS.iconst X25.here hx rfl (hb hby at_249) ?_
          show Steps p.tables e below (T25.setTop (mkF m 250 #[.val (.int p0), .val (.int p1), .val (.int p2), .val (.int p3), .val (.long q4), .second, .val (.int stn), .val (.ref b5), .val (.int (p1 &&& (7 : Int32))), .val (.double (FP.i2d (p2 &&& (2147483647 : Int32)))), .second, .val (.int (1 : Int32)), .val (.double r), .second, .val (.double (FP.i2d stn)), .second] [(.int (1 : Int32))])) _
          refine XS.goto X25.here hx rfl (pc0 := 250) (pc' := 254) rfl (hb hby at_250) (by decide) (by decide) ?_
          exact k
        obtain ⟨fs, hr, hrun, hended, hW, hsame⟩ := X25.leave (v := some (.int (1 : Int32))) (fun h => by rw [Bd.returns] at h; cases h)
        refine ⟨_, _, a27 _ ?_, hrun, hended, _, _, rfl, ?_, ⟨_, rfl⟩, hW, hsame.mono (by decide) (by decide)⟩
        · show Steps p.tables e below (T25.setTop (mkF m 254 #[.val (.int p0), .val (.int p1), .val (.int p2), .val (.int p3), .val (.long q4), .second, .val (.int stn), .val (.ref b5), .val (.int (p1 &&& (7 : Int32))), .val (.double (FP.i2d (p2 &&& (2147483647 : Int32)))), .second, .val (.int (1 : Int32)), .val (.double r), .second, .val (.double (FP.i2d stn)), .second] [(.int (1 : Int32))])) _
          exact retN X25 hx (t := .boolean) Bd.returns (by simp) (hb hby at_254) hr
        · show Q0 Z p0 p1 p2 p3 q4 h0 n0 _ T25.heap _
          rw [e25q]
          exact ⟨rfl, N25⟩
    ·
      have a28 : ∀ t, Steps p.tables e below (T8.setTop (mkF m 76 #[.val (.int p0), .val (.int p1), .val (.int p2), .val (.int p3), .val (.long q4), .second, .val (.int stn), .val (.ref b5), .val (.int (p1 &&& (7 : Int32))), .unset, .unset, .unset, .unset, .unset, .unset, .unset] [(.int (2 : Int32)), (.int (p1 &&& (7 : Int32)))])) t → Steps p.tables e below (s₁.setTop (entryFrame m #[(.int p0), (.int p1), (.int p2), (.int p3), (.long q4)] maxLocals)) t := by
        intro t k
        refine a16 t ?_
        show Steps p.tables e below (T8.setTop (mkF m 44 #[.val (.int p0), .val (.int p1), .val (.int p2), .val (.int p3), .val (.long q4), .second, .val (.int stn), .val (.ref b5), .val (.int (p1 &&& (7 : Int32))), .unset, .unset, .unset, .unset, .unset, .unset, .unset] [(.int (1 : Int32)), (.int (p1 &&& (7 : Int32)))])) _
        refine XS.icmpYes X8.here hx rfl (pc0 := 44) (pc' := 73) rfl (hb hby at_44) rfl (feq hc44_17).2 (by decide) (by decide) ?_
        show Steps p.tables e below (T8.setTop (mkF m 73 #[.val (.int p0), .val (.int p1), .val (.int p2), .val (.int p3), .val (.long q4), .second, .val (.int stn), .val (.ref b5), .val (.int (p1 &&& (7 : Int32))), .unset, .unset, .unset, .unset, .unset, .unset, .unset] [])) _
        refine XS.iload X8.here hx rfl (hb hby at_73) rfl ?_
        show Steps p.tables e below (T8.setTop (mkF m 75 #[.val (.int p0), .val (.int p1), .val (.int p2), .val (.int p3), .val (.long q4), .second, .val (.int stn), .val (.ref b5), .val (.int (p1 &&& (7 : Int32))), .unset, .unset, .unset, .unset, .unset, .unset, .unset] [(.int (p1 &&& (7 : Int32)))])) _
        refine XS.iconst X8.here hx rfl (hb hby at_75) ?_
        exact k
      by_cases hc76_29 : (p1 &&& (7 : Int32)) = (2 : Int32)
      ·
        have a30 : ∀ t, Steps p.tables e below (T8.setTop (mkF m 222 #[.val (.int p0), .val (.int p1), .val (.int p2), .val (.int p3), .val (.long q4), .second, .val (.int stn), .val (.ref b5), .val (.int (p1 &&& (7 : Int32))), .val (.double (FP.ddiv (FP.i2d ((p2 &&& (2147483647 : Int32)) ||| (1 : Int32))) (FP.i2d ((p3 &&& (65535 : Int32)) + (2 : Int32))))), .second, .val (.int (1 : Int32)), .unset, .unset, .unset, .unset] [(.double (FP.ddiv (FP.i2d ((p2 &&& (2147483647 : Int32)) ||| (1 : Int32))) (FP.i2d ((p3 &&& (65535 : Int32)) + (2 : Int32))))), (.ref b5)])) t → Steps p.tables e below (s₁.setTop (entryFrame m #[(.int p0), (.int p1), (.int p2), (.int p3), (.long q4)] maxLocals)) t := by
          intro t k
          refine a28 t ?_
          show Steps p.tables e below (T8.setTop (mkF m 76 #[.val (.int p0), .val (.int p1), .val (.int p2), .val (.int p3), .val (.long q4), .second, .val (.int stn), .val (.ref b5), .val (.int (p1 &&& (7 : Int32))), .unset, .unset, .unset, .unset, .unset, .unset, .unset] [(.int (2 : Int32)), (.int (p1 &&& (7 : Int32)))])) _
          refine XS.icmpNo X8.here hx rfl (hb hby at_76) rfl (teq hc76_29).2 ?_
          show Steps p.tables e below (T8.setTop (mkF m 79 #[.val (.int p0), .val (.int p1), .val (.int p2), .val (.int p3), .val (.long q4), .second, .val (.int stn), .val (.ref b5), .val (.int (p1 &&& (7 : Int32))), .unset, .unset, .unset, .unset, .unset, .unset, .unset] [])) _
          refine XS.iloadN X8.here hx rfl (hb hby at_79) rfl ?_
          show Steps p.tables e below (T8.setTop (mkF m 80 #[.val (.int p0), .val (.int p1), .val (.int p2), .val (.int p3), .val (.long q4), .second, .val (.int stn), .val (.ref b5), .val (.int (p1 &&& (7 : Int32))), .unset, .unset, .unset, .unset, .unset, .unset, .unset] [(.int p2)])) _
          refine X8.ldcInt hx hown (mvT hZ (hw _ (List.mem_of_getElem? (i := 0) rfl))) (g := (mkF m 80 #[.val (.int p0), .val (.int p1), .val (.int p2), .val (.int p3), .val (.long q4), .second, .val (.int stn), .val (.ref b5), .val (.int (p1 &&& (7 : Int32))), .unset, .unset, .unset, .unset, .unset, .unset, .unset] [(.int p2)])) rfl (hb hby at_80) _ ?_
          show Steps p.tables e below (T8.setTop (mkF m 82 #[.val (.int p0), .val (.int p1), .val (.int p2), .val (.int p3), .val (.long q4), .second, .val (.int stn), .val (.ref b5), .val (.int (p1 &&& (7 : Int32))), .unset, .unset, .unset, .unset, .unset, .unset, .unset] [(.int (2147483647 : Int32)), (.int p2)])) _
          refine XS.iand X8.here hx rfl (hb hby at_82) rfl ?_
          show Steps p.tables e below (T8.setTop (mkF m 83 #[.val (.int p0), .val (.int p1), .val (.int p2), .val (.int p3), .val (.long q4), .second, .val (.int stn), .val (.ref b5), .val (.int (p1 &&& (7 : Int32))), .unset, .unset, .unset, .unset, .unset, .unset, .unset] [(.int (p2 &&& (2147483647 : Int32)))])) _
          refine XS.iconst X8.here hx rfl (hb hby at_83) ?_
          show Steps p.tables e below (T8.setTop (mkF m 84 #[.val (.int p0), .val (.int p1), .val (.int p2), .val (.int p3), .val (.long q4), .second, .val (.int stn), .val (.ref b5), .val (.int (p1 &&& (7 : Int32))), .unset, .unset, .unset, .unset, .unset, .unset, .unset] [(.int (1 : Int32)), (.int (p2 &&& (2147483647 : Int32)))])) _
          refine XS.ior X8.here hx rfl (hb hby at_84) rfl ?_
          show Steps p.tables e below (T8.setTop (mkF m 85 #[.val (.int p0), .val (.int p1), .val (.int p2), .val (.int p3), .val (.long q4), .second, .val (.int stn), .val (.ref b5), .val (.int (p1 &&& (7 : Int32))), .unset, .unset, .unset, .unset, .unset, .unset, .unset] [(.int ((p2 &&& (2147483647 : Int32)) ||| (1 : Int32)))])) _
          refine XS.i2dS X8.here hx rfl (hb hby at_85) rfl rfl ?_
          show Steps p.tables e below (T8.setTop (mkF m 86 #[.val (.int p0), .val (.int p1), .val (.int p2), .val (.int p3), .val (.long q4), .second, .val (.int stn), .val (.ref b5), .val (.int (p1 &&& (7 : Int32))), .unset, .unset, .unset, .unset, .unset, .unset, .unset] [(.double (FP.i2d ((p2 &&& (2147483647 : Int32)) ||| (1 : Int32))))])) _
          refine XS.iloadN X8.here hx rfl (hb hby at_86) rfl ?_
          show Steps p.tables e below (T8.setTop (mkF m 87 #[.val (.int p0), .val (.int p1), .val (.int p2), .val (.int p3), .val (.long q4), .second, .val (.int stn), .val (.ref b5), .val (.int (p1 &&& (7 : Int32))), .unset, .unset, .unset, .unset, .unset, .unset, .unset] [(.int p3), (.double (FP.i2d ((p2 &&& (2147483647 : Int32)) ||| (1 : Int32))))])) _
          refine X8.ldcInt hx hown (mvT hZ (hw _ (List.mem_of_getElem? (i := 30) rfl))) (g := (mkF m 87 #[.val (.int p0), .val (.int p1), .val (.int p2), .val (.int p3), .val (.long q4), .second, .val (.int stn), .val (.ref b5), .val (.int (p1 &&& (7 : Int32))), .unset, .unset, .unset, .unset, .unset, .unset, .unset] [(.int p3), (.double (FP.i2d ((p2 &&& (2147483647 : Int32)) ||| (1 : Int32))))])) rfl (hb hby at_87) _ ?_
          show Steps p.tables e below (T8.setTop (mkF m 89 #[.val (.int p0), .val (.int p1), .val (.int p2), .val (.int p3), .val (.long q4), .second, .val (.int stn), .val (.ref b5), .val (.int (p1 &&& (7 : Int32))), .unset, .unset, .unset, .unset, .unset, .unset, .unset] [(.int (65535 : Int32)), (.int p3), (.double (FP.i2d ((p2 &&& (2147483647 : Int32)) ||| (1 : Int32))))])) _
          refine XS.iand X8.here hx rfl (hb hby at_89) rfl ?_
          show Steps p.tables e below (T8.setTop (mkF m 90 #[.val (.int p0), .val (.int p1), .val (.int p2), .val (.int p3), .val (.long q4), .second, .val (.int stn), .val (.ref b5), .val (.int (p1 &&& (7 : Int32))), .unset, .unset, .unset, .unset, .unset, .unset, .unset] [(.int (p3 &&& (65535 : Int32))), (.double (FP.i2d ((p2 &&& (2147483647 : Int32)) ||| (1 : Int32))))])) _
          refine XS.iconst X8.here hx rfl (hb hby at_90) ?_
          show Steps p.tables e below (T8.setTop (mkF m 91 #[.val (.int p0), .val (.int p1), .val (.int p2), .val (.int p3), .val (.long q4), .second, .val (.int stn), .val (.ref b5), .val (.int (p1 &&& (7 : Int32))), .unset, .unset, .unset, .unset, .unset, .unset, .unset] [(.int (2 : Int32)), (.int (p3 &&& (65535 : Int32))), (.double (FP.i2d ((p2 &&& (2147483647 : Int32)) ||| (1 : Int32))))])) _
          refine XS.iadd X8.here hx rfl (hb hby at_91) rfl ?_
          show Steps p.tables e below (T8.setTop (mkF m 92 #[.val (.int p0), .val (.int p1), .val (.int p2), .val (.int p3), .val (.long q4), .second, .val (.int stn), .val (.ref b5), .val (.int (p1 &&& (7 : Int32))), .unset, .unset, .unset, .unset, .unset, .unset, .unset] [(.int ((p3 &&& (65535 : Int32)) + (2 : Int32))), (.double (FP.i2d ((p2 &&& (2147483647 : Int32)) ||| (1 : Int32))))])) _
          refine XS.i2dS X8.here hx rfl (hb hby at_92) rfl rfl ?_
          show Steps p.tables e below (T8.setTop (mkF m 93 #[.val (.int p0), .val (.int p1), .val (.int p2), .val (.int p3), .val (.long q4), .second, .val (.int stn), .val (.ref b5), .val (.int (p1 &&& (7 : Int32))), .unset, .unset, .unset, .unset, .unset, .unset, .unset] [(.double (FP.i2d ((p3 &&& (65535 : Int32)) + (2 : Int32)))), (.double (FP.i2d ((p2 &&& (2147483647 : Int32)) ||| (1 : Int32))))])) _
          refine XS.ddivS X8.here hx rfl (hb hby at_93) rfl (own_quo_nn p2 p3) rfl ?_
          show Steps p.tables e below (T8.setTop (mkF m 94 #[.val (.int p0), .val (.int p1), .val (.int p2), .val (.int p3), .val (.long q4), .second, .val (.int stn), .val (.ref b5), .val (.int (p1 &&& (7 : Int32))), .unset, .unset, .unset, .unset, .unset, .unset, .unset] [(.double (FP.ddiv (FP.i2d ((p2 &&& (2147483647 : Int32)) ||| (1 : Int32))) (FP.i2d ((p3 &&& (65535 : Int32)) + (2 : Int32)))))])) _
          refine XS.dstore X8.here hx rfl (hb hby at_94) rfl (l' := #[.val (.int p0), .val (.int p1), .val (.int p2), .val (.int p3), .val (.long q4), .second, .val (.int stn), .val (.ref b5), .val (.int (p1 &&& (7 : Int32))), .val (.double (FP.ddiv (FP.i2d ((p2 &&& (2147483647 : Int32)) ||| (1 : Int32))) (FP.i2d ((p3 &&& (65535 : Int32)) + (2 : Int32))))), .second, .unset, .unset, .unset, .unset, .unset]) rfl ?_
          show Steps p.tables e below (T8.setTop (mkF m 96 #[.val (.int p0), .val (.int p1), .val (.int p2), .val (.int p3), .val (.long q4), .second, .val (.int stn), .val (.ref b5), .val (.int (p1 &&& (7 : Int32))), .val (.double (FP.ddiv (FP.i2d ((p2 &&& (2147483647 : Int32)) ||| (1 : Int32))) (FP.i2d ((p3 &&& (65535 : Int32)) + (2 : Int32))))), .second, .unset, .unset, .unset, .unset, .unset] [])) _
          refine XS.iconst X8.here hx rfl (hb hby at_96) ?_
          show Steps p.tables e below (T8.setTop (mkF m 97 #[.val (.int p0), .val (.int p1), .val (.int p2), .val (.int p3), .val (.long q4), .second, .val (.int stn), .val (.ref b5), .val (.int (p1 &&& (7 : Int32))), .val (.double (FP.ddiv (FP.i2d ((p2 &&& (2147483647 : Int32)) ||| (1 : Int32))) (FP.i2d ((p3 &&& (65535 : Int32)) + (2 : Int32))))), .second, .unset, .unset, .unset, .unset, .unset] [(.int (1 : Int32))])) _
          refine XS.istore X8.here hx rfl (hb hby at_97) rfl (l' := #[.val (.int p0), .val (.int p1), .val (.int p2), .val (.int p3), .val (.long q4), .second, .val (.int stn), .val (.ref b5), .val (.int (p1 &&& (7 : Int32))), .val (.double (FP.ddiv (FP.i2d ((p2 &&& (2147483647 : Int32)) ||| (1 : Int32))) (FP.i2d ((p3 &&& (65535 : Int32)) + (2 : Int32))))), .second, .val (.int (1 : Int32)), .unset, .unset, .unset, .unset]) rfl ?_
          show Steps p.tables e below (T8.setTop (mkF m 99 #[.val (.int p0), .val (.int p1), .val (.int p2), .val (.int p3), .val (.long q4), .second, .val (.int stn), .val (.ref b5), .val (.int (p1 &&& (7 : Int32))), .val (.double (FP.ddiv (FP.i2d ((p2 &&& (2147483647 : Int32)) ||| (1 : Int32))) (FP.i2d ((p3 &&& (65535 : Int32)) + (2 : Int32))))), .second, .val (.int (1 : Int32)), .unset, .unset, .unset, .unset] [])) _
          refine XS.goto X8.here hx rfl (pc0 := 99) (pc' := 218) rfl (hb hby at_99) (by decide) (by decide) ?_
          show Steps p.tables e below (T8.setTop (mkF m 218 #[.val (.int p0), .val (.int p1), .val (.int p2), .val (.int p3), .val (.long q4), .second, .val (.int stn), .val (.ref b5), .val (.int (p1 &&& (7 : Int32))), .val (.double (FP.ddiv (FP.i2d ((p2 &&& (2147483647 : Int32)) ||| (1 : Int32))) (FP.i2d ((p3 &&& (65535 : Int32)) + (2 : Int32))))), .second, .val (.int (1 : Int32)), .unset, .unset, .unset, .unset] [])) _
          refine XS.aload X8.here hx rfl (hb hby at_218) rfl rfl ?_
          show Steps p.tables e below (T8.setTop (mkF m 220 #[.val (.int p0), .val (.int p1), .val (.int p2), .val (.int p3), .val (.long q4), .second, .val (.int stn), .val (.ref b5), .val (.int (p1 &&& (7 : Int32))), .val (.double (FP.ddiv (FP.i2d ((p2 &&& (2147483647 : Int32)) ||| (1 : Int32))) (FP.i2d ((p3 &&& (65535 : Int32)) + (2 : Int32))))), .second, .val (.int (1 : Int32)), .unset, .unset, .unset, .unset] [(.ref b5)])) _
          refine XS.dload X8.here hx rfl (hb hby at_220) rfl ?_
          exact k
        obtain ⟨cq31, kq31, q31a, q31b, q31c⟩ := isOf hZ rfl (A5.keep K8q)
        obtain ⟨_, _, ⟨T31, L31, k31, n31⟩, -, X31, ⟨Lc31, hQ31, l31, y31, z31⟩, st31⟩ := X8.virtualBack hx (y := (⟨"com/example/placewright/placewright/scheme/Broadcast", "bandwidth", "(D)D"⟩ : MethodName)) (z := (⟨"com/example/placewright/placewright/scheme/Broadcast", "bandwidth", "(D)D"⟩ : MethodName)) hown (mvT hZ (hw _ (List.mem_of_getElem? (i := 22) rfl))) (mvT hZ (hw _ (List.mem_of_getElem? (i := 23) rfl))) (notFace_of_selects (args := #[]) (mvT hZ (hw _ (List.mem_of_getElem? (i := 25) rfl)))) (mvT hZ (hw _ (List.mem_of_getElem? (i := 25) rfl))) (mvT hZ (hw _ (List.mem_of_getElem? (i := 24) rfl))) (by decide) (backOf (W := 0) (rmB l Z a0 hw [] b5 (FP.ddiv (FP.i2d ((p2 &&& (2147483647 : Int32)) ||| (1 : Int32))) (FP.i2d ((p3 &&& (65535 : Int32)) + (2 : Int32)))) stn T8.heap n0 (Nat.le_trans (Nat.le_trans Z0 E5.1) K8q.1) G8_0) hZ (hw _ (List.mem_of_getElem? (i := 26) rfl)) (hw _ (List.mem_of_getElem? (i := 7) rfl)) (by decide) (by decide)) q31a q31c (g := (mkF m 222 #[.val (.int p0), .val (.int p1), .val (.int p2), .val (.int p3), .val (.long q4), .second, .val (.int stn), .val (.ref b5), .val (.int (p1 &&& (7 : Int32))), .val (.double (FP.ddiv (FP.i2d ((p2 &&& (2147483647 : Int32)) ||| (1 : Int32))) (FP.i2d ((p3 &&& (65535 : Int32)) + (2 : Int32))))), .second, .val (.int (1 : Int32)), .unset, .unset, .unset, .unset] [(.double (FP.ddiv (FP.i2d ((p2 &&& (2147483647 : Int32)) ||| (1 : Int32))) (FP.i2d ((p3 &&& (65535 : Int32)) + (2 : Int32))))), (.ref b5)])) rfl (by rw [hml]; rfl) (Steps.refl _) (argsL := [(.double (FP.ddiv (FP.i2d ((p2 &&& (2147483647 : Int32)) ||| (1 : Int32))) (FP.i2d ((p3 &&& (65535 : Int32)) + (2 : Int32)))))]) (rest := []) (lenOf own_pd3 rfl) rfl (by show 2 * 0 + _ ≤ _; exact Nat.le_of_eq rfl) (hb hby at_222) (fun _ _ => ⟨rfl, rfl, (by decide : 1 + 0 ≤ _), (by decide : 1 + 0 ≤ _)⟩)
        dsimp only [Pt.U, Pt.locs, Pt.cells, Pt.slots] at X31 l31 y31 z31 st31 hQ31
        subst l31 y31 z31
        obtain ⟨rfl, N31q, e31q⟩ := hQ31
        have N31 := Fr.app N8 N31q
        have a32 : ∀ t, Steps p.tables e below (T31.setTop (mkF m 225 #[.val (.int p0), .val (.int p1), .val (.int p2), .val (.int p3), .val (.long q4), .second, .val (.int stn), .val (.ref b5), .val (.int (p1 &&& (7 : Int32))), .val (.double (FP.ddiv (FP.i2d ((p2 &&& (2147483647 : Int32)) ||| (1 : Int32))) (FP.i2d ((p3 &&& (65535 : Int32)) + (2 : Int32))))), .second, .val (.int (1 : Int32)), .unset, .unset, .unset, .unset] [(.double (if FP.dcmp (FP.ddiv (FP.i2d ((p2 &&& (2147483647 : Int32)) ||| (1 : Int32))) (FP.i2d ((p3 &&& (65535 : Int32)) + (2 : Int32)))) 0 = some .gt then FP.i2d stn else 0))])) t → Steps p.tables e below (s₁.setTop (entryFrame m #[(.int p0), (.int p1), (.int p2), (.int p3), (.long q4)] maxLocals)) t := fun t k => a30 t (st31.trans k)
        obtain ⟨r, h_r⟩ : ∃ z : UInt64, z = (if FP.dcmp (FP.ddiv (FP.i2d ((p2 &&& (2147483647 : Int32)) ||| (1 : Int32))) (FP.i2d ((p3 &&& (65535 : Int32)) + (2 : Int32)))) 0 = some .gt then FP.i2d stn else 0) := ⟨_, rfl⟩
        rw [← h_r] at a32
        have a33 : ∀ t, Steps p.tables e below (T31.setTop (mkF m 254 #[.val (.int p0), .val (.int p1), .val (.int p2), .val (.int p3), .val (.long q4), .second, .val (.int stn), .val (.ref b5), .val (.int (p1 &&& (7 : Int32))), .val (.double (FP.ddiv (FP.i2d ((p2 &&& (2147483647 : Int32)) ||| (1 : Int32))) (FP.i2d ((p3 &&& (65535 : Int32)) + (2 : Int32))))), .second, .val (.int (1 : Int32)), .val (.double r), .second, .val (.double (FP.i2d stn)), .second] [(.int (1 : Int32))])) t → Steps p.tables e below (s₁.setTop (entryFrame m #[(.int p0), (.int p1), (.int p2), (.int p3), (.long q4)] maxLocals)) t := by
          intro t k
          refine a32 t ?_
          show Steps p.tables e below (T31.setTop (mkF m 225 #[.val (.int p0), .val (.int p1), .val (.int p2), .val (.int p3), .val (.long q4), .second, .val (.int stn), .val (.ref b5), .val (.int (p1 &&& (7 : Int32))), .val (.double (FP.ddiv (FP.i2d ((p2 &&& (2147483647 : Int32)) ||| (1 : Int32))) (FP.i2d ((p3 &&& (65535 : Int32)) + (2 : Int32))))), .second, .val (.int (1 : Int32)), .unset, .unset, .unset, .unset] [(.double r)])) _
          refine XS.dstore X31.here hx rfl (hb hby at_225) rfl (l' := #[.val (.int p0), .val (.int p1), .val (.int p2), .val (.int p3), .val (.long q4), .second, .val (.int stn), .val (.ref b5), .val (.int (p1 &&& (7 : Int32))), .val (.double (FP.ddiv (FP.i2d ((p2 &&& (2147483647 : Int32)) ||| (1 : Int32))) (FP.i2d ((p3 &&& (65535 : Int32)) + (2 : Int32))))), .second, .val (.int (1 : Int32)), .val (.double r), .second, .unset, .unset]) rfl ?_
          show Steps p.tables e below (T31.setTop (mkF m 227 #[.val (.int p0), .val (.int p1), .val (.int p2), .val (.int p3), .val (.long q4), .second, .val (.int stn), .val (.ref b5), .val (.int (p1 &&& (7 : Int32))), .val (.double (FP.ddiv (FP.i2d ((p2 &&& (2147483647 : Int32)) ||| (1 : Int32))) (FP.i2d ((p3 &&& (65535 : Int32)) + (2 : Int32))))), .second, .val (.int (1 : Int32)), .val (.double r), .second, .unset, .unset] [])) _
          refine XS.iload X31.here hx rfl (hb hby at_227) rfl ?_
          show Steps p.tables e below (T31.setTop (mkF m 229 #[.val (.int p0), .val (.int p1), .val (.int p2), .val (.int p3), .val (.long q4), .second, .val (.int stn), .val (.ref b5), .val (.int (p1 &&& (7 : Int32))), .val (.double (FP.ddiv (FP.i2d ((p2 &&& (2147483647 : Int32)) ||| (1 : Int32))) (FP.i2d ((p3 &&& (65535 : Int32)) + (2 : Int32))))), .second, .val (.int (1 : Int32)), .val (.double r), .second, .unset, .unset] [(.int (1 : Int32))])) _
          refine XS.ifNo X31.here hx rfl (hb hby at_229) rfl ((if0 _ _).trans (feq (by decide)).1) ?_
          show Steps p.tables e below (T31.setTop (mkF m 232 #[.val (.int p0), .val (.int p1), .val (.int p2), .val (.int p3), .val (.long q4), .second, .val (.int stn), .val (.ref b5), .val (.int (p1 &&& (7 : Int32))), .val (.double (FP.ddiv (FP.i2d ((p2 &&& (2147483647 : Int32)) ||| (1 : Int32))) (FP.i2d ((p3 &&& (65535 : Int32)) + (2 : Int32))))), .second, .val (.int (1 : Int32)), .val (.double r), .second, .unset, .unset] [])) _
          refine XS.iload X31.here hx rfl (hb hby at_232) rfl ?_
          show Steps p.tables e below (T31.setTop (mkF m 234 #[.val (.int p0), .val (.int p1), .val (.int p2), .val (.int p3), .val (.long q4), .second, .val (.int stn), .val (.ref b5), .val (.int (p1 &&& (7 : Int32))), .val (.double (FP.ddiv (FP.i2d ((p2 &&& (2147483647 : Int32)) ||| (1 : Int32))) (FP.i2d ((p3 &&& (65535 : Int32)) + (2 : Int32))))), .second, .val (.int (1 : Int32)), .val (.double r), .second, .unset, .unset] [(.int stn)])) _
          refine XS.i2dS X31.here hx rfl (hb hby at_234) rfl rfl ?_
          show Steps p.tables e below (T31.setTop (mkF m 235 #[.val (.int p0), .val (.int p1), .val (.int p2), .val (.int p3), .val (.long q4), .second, .val (.int stn), .val (.ref b5), .val (.int (p1 &&& (7 : Int32))), .val (.double (FP.ddiv (FP.i2d ((p2 &&& (2147483647 : Int32)) ||| (1 : Int32))) (FP.i2d ((p3 &&& (65535 : Int32)) + (2 : Int32))))), .second, .val (.int (1 : Int32)), .val (.double r), .second, .unset, .unset] [(.double (FP.i2d stn))])) _
          refine XS.goto X31.here hx rfl (pc0 := 235) (pc' := 239) rfl (hb hby at_235) (by decide) (by decide) ?_
          show Steps p.tables e below (T31.setTop (mkF m 239 #[.val (.int p0), .val (.int p1), .val (.int p2), .val (.int p3), .val (.long q4), .second, .val (.int stn), .val (.ref b5), .val (.int (p1 &&& (7 : Int32))), .val (.double (FP.ddiv (FP.i2d ((p2 &&& (2147483647 : Int32)) ||| (1 : Int32))) (FP.i2d ((p3 &&& (65535 : Int32)) + (2 : Int32))))), .second, .val (.int (1 : Int32)), .val (.double r), .second, .unset, .unset] [(.double (FP.i2d stn))])) _
          refine XS.dstore X31.here hx rfl (hb hby at_239) rfl (l' := #[.val (.int p0), .val (.int p1), .val (.int p2), .val (.int p3), .val (.long q4), .second, .val (.int stn), .val (.ref b5), .val (.int (p1 &&& (7 : Int32))), .val (.double (FP.ddiv (FP.i2d ((p2 &&& (2147483647 : Int32)) ||| (1 : Int32))) (FP.i2d ((p3 &&& (65535 : Int32)) + (2 : Int32))))), .second, .val (.int (1 : Int32)), .val (.double r), .second, .val (.double (FP.i2d stn)), .second]) rfl ?_
          show Steps p.tables e below (T31.setTop (mkF m 241 #[.val (.int p0), .val (.int p1), .val (.int p2), .val (.int p3), .val (.long q4), .second, .val (.int stn), .val (.ref b5), .val (.int (p1 &&& (7 : Int32))), .val (.double (FP.ddiv (FP.i2d ((p2 &&& (2147483647 : Int32)) ||| (1 : Int32))) (FP.i2d ((p3 &&& (65535 : Int32)) + (2 : Int32))))), .second, .val (.int (1 : Int32)), .val (.double r), .second, .val (.double (FP.i2d stn)), .second] [])) _
          refine XS.dload X31.here hx rfl (hb hby at_241) rfl ?_
          show Steps p.tables e below (T31.setTop (mkF m 243 #[.val (.int p0), .val (.int p1), .val (.int p2), .val (.int p3), .val (.long q4), .second, .val (.int stn), .val (.ref b5), .val (.int (p1 &&& (7 : Int32))), .val (.double (FP.ddiv (FP.i2d ((p2 &&& (2147483647 : Int32)) ||| (1 : Int32))) (FP.i2d ((p3 &&& (65535 : Int32)) + (2 : Int32))))), .second, .val (.int (1 : Int32)), .val (.double r), .second, .val (.double (FP.i2d stn)), .second] [(.double r)])) _
          refine XS.dload X31.here hx rfl (hb hby at_243) rfl ?_
          show Steps p.tables e below (T31.setTop (mkF m 245 #[.val (.int p0), .val (.int p1), .val (.int p2), .val (.int p3), .val (.long q4), .second, .val (.int stn), .val (.ref b5), .val (.int (p1 &&& (7 : Int32))), .val (.double (FP.ddiv (FP.i2d ((p2 &&& (2147483647 : Int32)) ||| (1 : Int32))) (FP.i2d ((p3 &&& (65535 : Int32)) + (2 : Int32))))), .second, .val (.int (1 : Int32)), .val (.double r), .second, .val (.double (FP.i2d stn)), .second] [(.double (FP.i2d stn)), (.double r)])) _
          refine XS.dcmpS X31.here hx rfl (hb hby at_245) rfl rfl ?_
          show Steps p.tables e below (T31.setTop (mkF m 246 #[.val (.int p0), .val (.int p1), .val (.int p2), .val (.int p3), .val (.long q4), .second, .val (.int stn), .val (.ref b5), .val (.int (p1 &&& (7 : Int32))), .val (.double (FP.ddiv (FP.i2d ((p2 &&& (2147483647 : Int32)) ||| (1 : Int32))) (FP.i2d ((p3 &&& (65535 : Int32)) + (2 : Int32))))), .second, .val (.int (1 : Int32)), .val (.double r), .second, .val (.double (FP.i2d stn)), .second] [(.int (cmpValue (FP.dcmp r (FP.i2d stn)) .l))])) _
          refine XS.ifNo X31.here hx rfl (hb hby at_246) rfl ((if0 _ _).trans (teq (own_yes h_r (own_quo_gt p2 p3))).2) ?_
          show Steps p.tables e below (T31.setTop (mkF m 249 #[.val (.int p0), .val (.int p1), .val (.int p2), .val (.int p3), .val (.long q4), .second, .val (.int stn), .val (.ref b5), .val (.int (p1 &&& (7 : Int32))), .val (.double (FP.ddiv (FP.i2d ((p2 &&& (2147483647 : Int32)) ||| (1 : Int32))) (FP.i2d ((p3 &&& (65535 : Int32)) + (2 : Int32))))), .second, .val (.int (1 : Int32)), .val (.double r), .second, .val (.double (FP.i2d stn)), .second] [])) _
          refine XS.iconst X31.here hx rfl (hb hby at_249) ?_
          show Steps p.tables e below (T31.setTop (mkF m 250 #[.val (.int p0), .val (.int p1), .val (.int p2), .val (.int p3), .val (.long q4), .second, .val (.int stn), .val (.ref b5), .val (.int (p1 &&& (7 : Int32))), .val (.double (FP.ddiv (FP.i2d ((p2 &&& (2147483647 : Int32)) ||| (1 : Int32))) (FP.i2d ((p3 &&& (65535 : Int32)) + (2 : Int32))))), .second, .val (.int (1 : Int32)), .val (.double r), .second, .val (.double (FP.i2d stn)), .second] [(.int (1 : Int32))])) _
          refine XS.goto X31.here hx rfl (pc0 := 250) (pc' := 254) rfl (hb hby at_250) (by decide) (by decide) ?_
          exact k
        obtain ⟨fs, hr, hrun, hended, hW, hsame⟩ := X31.leave (v := some (.int (1 : Int32))) (fun h => by rw [Bd.returns] at h; cases h)
        refine ⟨_, _, a33 _ ?_, hrun, hended, _, _, rfl, ?_, ⟨_, rfl⟩, hW, hsame.mono (by decide) (by decide)⟩
        · show Steps p.tables e below (T31.setTop (mkF m 254 #[.val (.int p0), .val (.int p1), .val (.int p2), .val (.int p3), .val (.long q4), .second, .val (.int stn), .val (.ref b5), .val (.int (p1 &&& (7 : Int32))), .val (.double (FP.ddiv (FP.i2d ((p2 &&& (2147483647 : Int32)) ||| (1 : Int32))) (FP.i2d ((p3 &&& (65535 : Int32)) + (2 : Int32))))), .second, .val (.int (1 : Int32)), .val (.double r), .second, .val (.double (FP.i2d stn)), .second] [(.int (1 : Int32))])) _
          exact retN X31 hx (t := .boolean) Bd.returns (by simp) (hb hby at_254) hr
        · show Q0 Z p0 p1 p2 p3 q4 h0 n0 _ T31.heap _
          rw [e31q]
          exact ⟨rfl, N31⟩
      ·
        have a34 : ∀ t, Steps p.tables e below (T8.setTop (mkF m 105 #[.val (.int p0), .val (.int p1), .val (.int p2), .val (.int p3), .val (.long q4), .second, .val (.int stn), .val (.ref b5), .val (.int (p1 &&& (7 : Int32))), .unset, .unset, .unset, .unset, .unset, .unset, .unset] [(.int (3 : Int32)), (.int (p1 &&& (7 : Int32)))])) t → Steps p.tables e below (s₁.setTop (entryFrame m #[(.int p0), (.int p1), (.int p2), (.int p3), (.long q4)] maxLocals)) t := by
          intro t k
          refine a28 t ?_
          show Steps p.tables e below (T8.setTop (mkF m 76 #[.val (.int p0), .val (.int p1), .val (.int p2), .val (.int p3), .val (.long q4), .second, .val (.int stn), .val (.ref b5), .val (.int (p1 &&& (7 : Int32))), .unset, .unset, .unset, .unset, .unset, .unset, .unset] [(.int (2 : Int32)), (.int (p1 &&& (7 : Int32)))])) _
          refine XS.icmpYes X8.here hx rfl (pc0 := 76) (pc' := 102) rfl (hb hby at_76) rfl (feq hc76_29).2 (by decide) (by decide) ?_
          show Steps p.tables e below (T8.setTop (mkF m 102 #[.val (.int p0), .val (.int p1), .val (.int p2), .val (.int p3), .val (.long q4), .second, .val (.int stn), .val (.ref b5), .val (.int (p1 &&& (7 : Int32))), .unset, .unset, .unset, .unset, .unset, .unset, .unset] [])) _
          refine XS.iload X8.here hx rfl (hb hby at_102) rfl ?_
          show Steps p.tables e below (T8.setTop (mkF m 104 #[.val (.int p0), .val (.int p1), .val (.int p2), .val (.int p3), .val (.long q4), .second, .val (.int stn), .val (.ref b5), .val (.int (p1 &&& (7 : Int32))), .unset, .unset, .unset, .unset, .unset, .unset, .unset] [(.int (p1 &&& (7 : Int32)))])) _
          refine XS.iconst X8.here hx rfl (hb hby at_104) ?_
          exact k
        by_cases hc105_35 : (p1 &&& (7 : Int32)) = (3 : Int32)
        ·
          have a36 : ∀ t, Steps p.tables e below (T8.setTop (mkF m 222 #[.val (.int p0), .val (.int p1), .val (.int p2), .val (.int p3), .val (.long q4), .second, .val (.int stn), .val (.ref b5), .val (.int (p1 &&& (7 : Int32))), .val (.double (1 : UInt64)), .second, .val (.int (1 : Int32)), .unset, .unset, .unset, .unset] [(.double (1 : UInt64)), (.ref b5)])) t → Steps p.tables e below (s₁.setTop (entryFrame m #[(.int p0), (.int p1), (.int p2), (.int p3), (.long q4)] maxLocals)) t := by
            intro t k
            refine a34 t ?_
            show Steps p.tables e below (T8.setTop (mkF m 105 #[.val (.int p0), .val (.int p1), .val (.int p2), .val (.int p3), .val (.long q4), .second, .val (.int stn), .val (.ref b5), .val (.int (p1 &&& (7 : Int32))), .unset, .unset, .unset, .unset, .unset, .unset, .unset] [(.int (3 : Int32)), (.int (p1 &&& (7 : Int32)))])) _
            refine XS.icmpNo X8.here hx rfl (hb hby at_105) rfl (teq hc105_35).2 ?_
            show Steps p.tables e below (T8.setTop (mkF m 108 #[.val (.int p0), .val (.int p1), .val (.int p2), .val (.int p3), .val (.long q4), .second, .val (.int stn), .val (.ref b5), .val (.int (p1 &&& (7 : Int32))), .unset, .unset, .unset, .unset, .unset, .unset, .unset] [])) _
            refine X8.ldc2DoubleC hx hown (mvT hZ (hw _ (List.mem_of_getElem? (i := 21) rfl))) (g := (mkF m 108 #[.val (.int p0), .val (.int p1), .val (.int p2), .val (.int p3), .val (.long q4), .second, .val (.int stn), .val (.ref b5), .val (.int (p1 &&& (7 : Int32))), .unset, .unset, .unset, .unset, .unset, .unset, .unset] [])) rfl (hb hby at_108) _ ?_
            show Steps p.tables e below (T8.setTop (mkF m 111 #[.val (.int p0), .val (.int p1), .val (.int p2), .val (.int p3), .val (.long q4), .second, .val (.int stn), .val (.ref b5), .val (.int (p1 &&& (7 : Int32))), .unset, .unset, .unset, .unset, .unset, .unset, .unset] [(.double (1 : UInt64))])) _
            refine XS.dstore X8.here hx rfl (hb hby at_111) rfl (l' := #[.val (.int p0), .val (.int p1), .val (.int p2), .val (.int p3), .val (.long q4), .second, .val (.int stn), .val (.ref b5), .val (.int (p1 &&& (7 : Int32))), .val (.double (1 : UInt64)), .second, .unset, .unset, .unset, .unset, .unset]) rfl ?_
            show Steps p.tables e below (T8.setTop (mkF m 113 #[.val (.int p0), .val (.int p1), .val (.int p2), .val (.int p3), .val (.long q4), .second, .val (.int stn), .val (.ref b5), .val (.int (p1 &&& (7 : Int32))), .val (.double (1 : UInt64)), .second, .unset, .unset, .unset, .unset, .unset] [])) _
            refine XS.iconst X8.here hx rfl (hb hby at_113) ?_
            show Steps p.tables e below (T8.setTop (mkF m 114 #[.val (.int p0), .val (.int p1), .val (.int p2), .val (.int p3), .val (.long q4), .second, .val (.int stn), .val (.ref b5), .val (.int (p1 &&& (7 : Int32))), .val (.double (1 : UInt64)), .second, .unset, .unset, .unset, .unset, .unset] [(.int (1 : Int32))])) _
            refine XS.istore X8.here hx rfl (hb hby at_114) rfl (l' := #[.val (.int p0), .val (.int p1), .val (.int p2), .val (.int p3), .val (.long q4), .second, .val (.int stn), .val (.ref b5), .val (.int (p1 &&& (7 : Int32))), .val (.double (1 : UInt64)), .second, .val (.int (1 : Int32)), .unset, .unset, .unset, .unset]) rfl ?_
            show Steps p.tables e below (T8.setTop (mkF m 116 #[.val (.int p0), .val (.int p1), .val (.int p2), .val (.int p3), .val (.long q4), .second, .val (.int stn), .val (.ref b5), .val (.int (p1 &&& (7 : Int32))), .val (.double (1 : UInt64)), .second, .val (.int (1 : Int32)), .unset, .unset, .unset, .unset] [])) _
            refine XS.goto X8.here hx rfl (pc0 := 116) (pc' := 218) rfl (hb hby at_116) (by decide) (by decide) ?_
            show Steps p.tables e below (T8.setTop (mkF m 218 #[.val (.int p0), .val (.int p1), .val (.int p2), .val (.int p3), .val (.long q4), .second, .val (.int stn), .val (.ref b5), .val (.int (p1 &&& (7 : Int32))), .val (.double (1 : UInt64)), .second, .val (.int (1 : Int32)), .unset, .unset, .unset, .unset] [])) _
            refine XS.aload X8.here hx rfl (hb hby at_218) rfl rfl ?_
            show Steps p.tables e below (T8.setTop (mkF m 220 #[.val (.int p0), .val (.int p1), .val (.int p2), .val (.int p3), .val (.long q4), .second, .val (.int stn), .val (.ref b5), .val (.int (p1 &&& (7 : Int32))), .val (.double (1 : UInt64)), .second, .val (.int (1 : Int32)), .unset, .unset, .unset, .unset] [(.ref b5)])) _
            refine XS.dload X8.here hx rfl (hb hby at_220) rfl ?_
            exact k
          obtain ⟨cq37, kq37, q37a, q37b, q37c⟩ := isOf hZ rfl (A5.keep K8q)
          obtain ⟨_, _, ⟨T37, L37, k37, n37⟩, -, X37, ⟨Lc37, hQ37, l37, y37, z37⟩, st37⟩ := X8.virtualBack hx (y := (⟨"com/example/placewright/placewright/scheme/Broadcast", "bandwidth", "(D)D"⟩ : MethodName)) (z := (⟨"com/example/placewright/placewright/scheme/Broadcast", "bandwidth", "(D)D"⟩ : MethodName)) hown (mvT hZ (hw _ (List.mem_of_getElem? (i := 22) rfl))) (mvT hZ (hw _ (List.mem_of_getElem? (i := 23) rfl))) (notFace_of_selects (args := #[]) (mvT hZ (hw _ (List.mem_of_getElem? (i := 25) rfl)))) (mvT hZ (hw _ (List.mem_of_getElem? (i := 25) rfl))) (mvT hZ (hw _ (List.mem_of_getElem? (i := 24) rfl))) (by decide) (backOf (W := 0) (rmB l Z a0 hw [] b5 (1 : UInt64) stn T8.heap n0 (Nat.le_trans (Nat.le_trans Z0 E5.1) K8q.1) G8_0) hZ (hw _ (List.mem_of_getElem? (i := 26) rfl)) (hw _ (List.mem_of_getElem? (i := 7) rfl)) (by decide) (by decide)) q37a q37c (g := (mkF m 222 #[.val (.int p0), .val (.int p1), .val (.int p2), .val (.int p3), .val (.long q4), .second, .val (.int stn), .val (.ref b5), .val (.int (p1 &&& (7 : Int32))), .val (.double (1 : UInt64)), .second, .val (.int (1 : Int32)), .unset, .unset, .unset, .unset] [(.double (1 : UInt64)), (.ref b5)])) rfl (by rw [hml]; rfl) (Steps.refl _) (argsL := [(.double (1 : UInt64))]) (rest := []) (lenOf own_pd3 rfl) rfl (by show 2 * 0 + _ ≤ _; exact Nat.le_of_eq rfl) (hb hby at_222) (fun _ _ => ⟨rfl, rfl, (by decide : 1 + 0 ≤ _), (by decide : 1 + 0 ≤ _)⟩)
          dsimp only [Pt.U, Pt.locs, Pt.cells, Pt.slots] at X37 l37 y37 z37 st37 hQ37
          subst l37 y37 z37
          obtain ⟨rfl, N37q, e37q⟩ := hQ37
          have N37 := Fr.app N8 N37q
          have a38 : ∀ t, Steps p.tables e below (T37.setTop (mkF m 225 #[.val (.int p0), .val (.int p1), .val (.int p2), .val (.int p3), .val (.long q4), .second, .val (.int stn), .val (.ref b5), .val (.int (p1 &&& (7 : Int32))), .val (.double (1 : UInt64)), .second, .val (.int (1 : Int32)), .unset, .unset, .unset, .unset] [(.double (if FP.dcmp (1 : UInt64) 0 = some .gt then FP.i2d stn else 0))])) t → Steps p.tables e below (s₁.setTop (entryFrame m #[(.int p0), (.int p1), (.int p2), (.int p3), (.long q4)] maxLocals)) t := fun t k => a36 t (st37.trans k)
          obtain ⟨r, h_r⟩ : ∃ z : UInt64, z = (if FP.dcmp (1 : UInt64) 0 = some .gt then FP.i2d stn else 0) := ⟨_, rfl⟩
          rw [← h_r] at a38
          have a39 : ∀ t, Steps p.tables e below (T37.setTop (mkF m 254 #[.val (.int p0), .val (.int p1), .val (.int p2), .val (.int p3), .val (.long q4), .second, .val (.int stn), .val (.ref b5), .val (.int (p1 &&& (7 : Int32))), .val (.double (1 : UInt64)), .second, .val (.int (1 : Int32)), .val (.double r), .second, .val (.double (FP.i2d stn)), .second] [(.int (1 : Int32))])) t → Steps p.tables e below (s₁.setTop (entryFrame m #[(.int p0), (.int p1), (.int p2), (.int p3), (.long q4)] maxLocals)) t := by
            intro t k
            refine a38 t ?_
            show Steps p.tables e below (T37.setTop (mkF m 225 #[.val (.int p0), .val (.int p1), .val (.int p2), .val (.int p3), .val (.long q4), .second, .val (.int stn), .val (.ref b5), .val (.int (p1 &&& (7 : Int32))), .val (.double (1 : UInt64)), .second, .val (.int (1 : Int32)), .unset, .unset, .unset, .unset] [(.double r)])) _
            refine XS.dstore X37.here hx rfl (hb hby at_225) rfl (l' := #[.val (.int p0), .val (.int p1), .val (.int p2), .val (.int p3), .val (.long q4), .second, .val (.int stn), .val (.ref b5), .val (.int (p1 &&& (7 : Int32))), .val (.double (1 : UInt64)), .second, .val (.int (1 : Int32)), .val (.double r), .second, .unset, .unset]) rfl ?_
            show Steps p.tables e below (T37.setTop (mkF m 227 #[.val (.int p0), .val (.int p1), .val (.int p2), .val (.int p3), .val (.long q4), .second, .val (.int stn), .val (.ref b5), .val (.int (p1 &&& (7 : Int32))), .val (.double (1 : UInt64)), .second, .val (.int (1 : Int32)), .val (.double r), .second, .unset, .unset] [])) _
            refine XS.iload X37.here hx rfl (hb hby at_227) rfl ?_
            show Steps p.tables e below (T37.setTop (mkF m 229 #[.val (.int p0), .val (.int p1), .val (.int p2), .val (.int p3), .val (.long q4), .second, .val (.int stn), .val (.ref b5), .val (.int (p1 &&& (7 : Int32))), .val (.double (1 : UInt64)), .second, .val (.int (1 : Int32)), .val (.double r), .second, .unset, .unset] [(.int (1 : Int32))])) _
            refine XS.ifNo X37.here hx rfl (hb hby at_229) rfl ((if0 _ _).trans (feq (by decide)).1) ?_
            show Steps p.tables e below (T37.setTop (mkF m 232 #[.val (.int p0), .val (.int p1), .val (.int p2), .val (.int p3), .val (.long q4), .second, .val (.int stn), .val (.ref b5), .val (.int (p1 &&& (7 : Int32))), .val (.double (1 : UInt64)), .second, .val (.int (1 : Int32)), .val (.double r), .second, .unset, .unset] [])) _
            refine XS.iload X37.here hx rfl (hb hby at_232) rfl ?_
            show Steps p.tables e below (T37.setTop (mkF m 234 #[.val (.int p0), .val (.int p1), .val (.int p2), .val (.int p3), .val (.long q4), .second, .val (.int stn), .val (.ref b5), .val (.int (p1 &&& (7 : Int32))), .val (.double (1 : UInt64)), .second, .val (.int (1 : Int32)), .val (.double r), .second, .unset, .unset] [(.int stn)])) _
            refine XS.i2dS X37.here hx rfl (hb hby at_234) rfl rfl ?_
            show Steps p.tables e below (T37.setTop (mkF m 235 #[.val (.int p0), .val (.int p1), .val (.int p2), .val (.int p3), .val (.long q4), .second, .val (.int stn), .val (.ref b5), .val (.int (p1 &&& (7 : Int32))), .val (.double (1 : UInt64)), .second, .val (.int (1 : Int32)), .val (.double r), .second, .unset, .unset] [(.double (FP.i2d stn))])) _
            refine XS.goto X37.here hx rfl (pc0 := 235) (pc' := 239) rfl (hb hby at_235) (by decide) (by decide) ?_
            show Steps p.tables e below (T37.setTop (mkF m 239 #[.val (.int p0), .val (.int p1), .val (.int p2), .val (.int p3), .val (.long q4), .second, .val (.int stn), .val (.ref b5), .val (.int (p1 &&& (7 : Int32))), .val (.double (1 : UInt64)), .second, .val (.int (1 : Int32)), .val (.double r), .second, .unset, .unset] [(.double (FP.i2d stn))])) _
            refine XS.dstore X37.here hx rfl (hb hby at_239) rfl (l' := #[.val (.int p0), .val (.int p1), .val (.int p2), .val (.int p3), .val (.long q4), .second, .val (.int stn), .val (.ref b5), .val (.int (p1 &&& (7 : Int32))), .val (.double (1 : UInt64)), .second, .val (.int (1 : Int32)), .val (.double r), .second, .val (.double (FP.i2d stn)), .second]) rfl ?_
            show Steps p.tables e below (T37.setTop (mkF m 241 #[.val (.int p0), .val (.int p1), .val (.int p2), .val (.int p3), .val (.long q4), .second, .val (.int stn), .val (.ref b5), .val (.int (p1 &&& (7 : Int32))), .val (.double (1 : UInt64)), .second, .val (.int (1 : Int32)), .val (.double r), .second, .val (.double (FP.i2d stn)), .second] [])) _
            refine XS.dload X37.here hx rfl (hb hby at_241) rfl ?_
            show Steps p.tables e below (T37.setTop (mkF m 243 #[.val (.int p0), .val (.int p1), .val (.int p2), .val (.int p3), .val (.long q4), .second, .val (.int stn), .val (.ref b5), .val (.int (p1 &&& (7 : Int32))), .val (.double (1 : UInt64)), .second, .val (.int (1 : Int32)), .val (.double r), .second, .val (.double (FP.i2d stn)), .second] [(.double r)])) _
            refine XS.dload X37.here hx rfl (hb hby at_243) rfl ?_
            show Steps p.tables e below (T37.setTop (mkF m 245 #[.val (.int p0), .val (.int p1), .val (.int p2), .val (.int p3), .val (.long q4), .second, .val (.int stn), .val (.ref b5), .val (.int (p1 &&& (7 : Int32))), .val (.double (1 : UInt64)), .second, .val (.int (1 : Int32)), .val (.double r), .second, .val (.double (FP.i2d stn)), .second] [(.double (FP.i2d stn)), (.double r)])) _
            refine XS.dcmpS X37.here hx rfl (hb hby at_245) rfl rfl ?_
            show Steps p.tables e below (T37.setTop (mkF m 246 #[.val (.int p0), .val (.int p1), .val (.int p2), .val (.int p3), .val (.long q4), .second, .val (.int stn), .val (.ref b5), .val (.int (p1 &&& (7 : Int32))), .val (.double (1 : UInt64)), .second, .val (.int (1 : Int32)), .val (.double r), .second, .val (.double (FP.i2d stn)), .second] [(.int (cmpValue (FP.dcmp r (FP.i2d stn)) .l))])) _
            refine XS.ifNo X37.here hx rfl (hb hby at_246) rfl ((if0 _ _).trans (teq (own_yes h_r (by decide +kernel))).2) ?_
            show Steps p.tables e below (T37.setTop (mkF m 249 #[.val (.int p0), .val (.int p1), .val (.int p2), .val (.int p3), .val (.long q4), .second, .val (.int stn), .val (.ref b5), .val (.int (p1 &&& (7 : Int32))), .val (.double (1 : UInt64)), .second, .val (.int (1 : Int32)), .val (.double r), .second, .val (.double (FP.i2d stn)), .second] [])) _
            refine XS.iconst X37.here hx rfl (hb hby at_249) ?_
            show Steps p.tables e below (T37.setTop (mkF m 250 #[.val (.int p0), .val (.int p1), .val (.int p2), .val (.int p3), .val (.long q4), .second, .val (.int stn), .val (.ref b5), .val (.int (p1 &&& (7 : Int32))), .val (.double (1 : UInt64)), .second, .val (.int (1 : Int32)), .val (.double r), .second, .val (.double (FP.i2d stn)), .second] [(.int (1 : Int32))])) _
            refine XS.goto X37.here hx rfl (pc0 := 250) (pc' := 254) rfl (hb hby at_250) (by decide) (by decide) ?_
            exact k
          obtain ⟨fs, hr, hrun, hended, hW, hsame⟩ := X37.leave (v := some (.int (1 : Int32))) (fun h => by rw [Bd.returns] at h; cases h)
          refine ⟨_, _, a39 _ ?_, hrun, hended, _, _, rfl, ?_, ⟨_, rfl⟩, hW, hsame.mono (by decide) (by decide)⟩
          · show Steps p.tables e below (T37.setTop (mkF m 254 #[.val (.int p0), .val (.int p1), .val (.int p2), .val (.int p3), .val (.long q4), .second, .val (.int stn), .val (.ref b5), .val (.int (p1 &&& (7 : Int32))), .val (.double (1 : UInt64)), .second, .val (.int (1 : Int32)), .val (.double r), .second, .val (.double (FP.i2d stn)), .second] [(.int (1 : Int32))])) _
            exact retN X37 hx (t := .boolean) Bd.returns (by simp) (hb hby at_254) hr
          · show Q0 Z p0 p1 p2 p3 q4 h0 n0 _ T37.heap _
            rw [e37q]
            exact ⟨rfl, N37⟩
        ·
          have a40 : ∀ t, Steps p.tables e below (T8.setTop (mkF m 122 #[.val (.int p0), .val (.int p1), .val (.int p2), .val (.int p3), .val (.long q4), .second, .val (.int stn), .val (.ref b5), .val (.int (p1 &&& (7 : Int32))), .unset, .unset, .unset, .unset, .unset, .unset, .unset] [(.int (4 : Int32)), (.int (p1 &&& (7 : Int32)))])) t → Steps p.tables e below (s₁.setTop (entryFrame m #[(.int p0), (.int p1), (.int p2), (.int p3), (.long q4)] maxLocals)) t := by
            intro t k
            refine a34 t ?_
            show Steps p.tables e below (T8.setTop (mkF m 105 #[.val (.int p0), .val (.int p1), .val (.int p2), .val (.int p3), .val (.long q4), .second, .val (.int stn), .val (.ref b5), .val (.int (p1 &&& (7 : Int32))), .unset, .unset, .unset, .unset, .unset, .unset, .unset] [(.int (3 : Int32)), (.int (p1 &&& (7 : Int32)))])) _
            refine XS.icmpYes X8.here hx rfl (pc0 := 105) (pc' := 119) rfl (hb hby at_105) rfl (feq hc105_35).2 (by decide) (by decide) ?_
            show Steps p.tables e below (T8.setTop (mkF m 119 #[.val (.int p0), .val (.int p1), .val (.int p2), .val (.int p3), .val (.long q4), .second, .val (.int stn), .val (.ref b5), .val (.int (p1 &&& (7 : Int32))), .unset, .unset, .unset, .unset, .unset, .unset, .unset] [])) _
            refine XS.iload X8.here hx rfl (hb hby at_119) rfl ?_
            show Steps p.tables e below (T8.setTop (mkF m 121 #[.val (.int p0), .val (.int p1), .val (.int p2), .val (.int p3), .val (.long q4), .second, .val (.int stn), .val (.ref b5), .val (.int (p1 &&& (7 : Int32))), .unset, .unset, .unset, .unset, .unset, .unset, .unset] [(.int (p1 &&& (7 : Int32)))])) _
            refine XS.iconst X8.here hx rfl (hb hby at_121) ?_
            exact k
          by_cases hc122_41 : (p1 &&& (7 : Int32)) = (4 : Int32)
          ·
            have a42 : ∀ t, Steps p.tables e below (T8.setTop (mkF m 222 #[.val (.int p0), .val (.int p1), .val (.int p2), .val (.int p3), .val (.long q4), .second, .val (.int stn), .val (.ref b5), .val (.int (p1 &&& (7 : Int32))), .val (.double (9223372036854775808 : UInt64)), .second, .val (.int (0 : Int32)), .unset, .unset, .unset, .unset] [(.double (9223372036854775808 : UInt64)), (.ref b5)])) t → Steps p.tables e below (s₁.setTop (entryFrame m #[(.int p0), (.int p1), (.int p2), (.int p3), (.long q4)] maxLocals)) t := by
              intro t k
              refine a40 t ?_
              show Steps p.tables e below (T8.setTop (mkF m 122 #[.val (.int p0), .val (.int p1), .val (.int p2), .val (.int p3), .val (.long q4), .second, .val (.int stn), .val (.ref b5), .val (.int (p1 &&& (7 : Int32))), .unset, .unset, .unset, .unset, .unset, .unset, .unset] [(.int (4 : Int32)), (.int (p1 &&& (7 : Int32)))])) _
              refine XS.icmpNo X8.here hx rfl (hb hby at_122) rfl (teq hc122_41).2 ?_
              show Steps p.tables e below (T8.setTop (mkF m 125 #[.val (.int p0), .val (.int p1), .val (.int p2), .val (.int p3), .val (.long q4), .second, .val (.int stn), .val (.ref b5), .val (.int (p1 &&& (7 : Int32))), .unset, .unset, .unset, .unset, .unset, .unset, .unset] [])) _
              refine X8.ldc2DoubleC hx hown (mvT hZ (hw _ (List.mem_of_getElem? (i := 31) rfl))) (g := (mkF m 125 #[.val (.int p0), .val (.int p1), .val (.int p2), .val (.int p3), .val (.long q4), .second, .val (.int stn), .val (.ref b5), .val (.int (p1 &&& (7 : Int32))), .unset, .unset, .unset, .unset, .unset, .unset, .unset] [])) rfl (hb hby at_125) _ ?_
              show Steps p.tables e below (T8.setTop (mkF m 128 #[.val (.int p0), .val (.int p1), .val (.int p2), .val (.int p3), .val (.long q4), .second, .val (.int stn), .val (.ref b5), .val (.int (p1 &&& (7 : Int32))), .unset, .unset, .unset, .unset, .unset, .unset, .unset] [(.double (9223372036854775808 : UInt64))])) _
              refine XS.dstore X8.here hx rfl (hb hby at_128) rfl (l' := #[.val (.int p0), .val (.int p1), .val (.int p2), .val (.int p3), .val (.long q4), .second, .val (.int stn), .val (.ref b5), .val (.int (p1 &&& (7 : Int32))), .val (.double (9223372036854775808 : UInt64)), .second, .unset, .unset, .unset, .unset, .unset]) rfl ?_
              show Steps p.tables e below (T8.setTop (mkF m 130 #[.val (.int p0), .val (.int p1), .val (.int p2), .val (.int p3), .val (.long q4), .second, .val (.int stn), .val (.ref b5), .val (.int (p1 &&& (7 : Int32))), .val (.double (9223372036854775808 : UInt64)), .second, .unset, .unset, .unset, .unset, .unset] [])) _
              refine XS.iconst X8.here hx rfl (hb hby at_130) ?_
              show Steps p.tables e below (T8.setTop (mkF m 131 #[.val (.int p0), .val (.int p1), .val (.int p2), .val (.int p3), .val (.long q4), .second, .val (.int stn), .val (.ref b5), .val (.int (p1 &&& (7 : Int32))), .val (.double (9223372036854775808 : UInt64)), .second, .unset, .unset, .unset, .unset, .unset] [(.int (0 : Int32))])) _
              refine XS.istore X8.here hx rfl (hb hby at_131) rfl (l' := #[.val (.int p0), .val (.int p1), .val (.int p2), .val (.int p3), .val (.long q4), .second, .val (.int stn), .val (.ref b5), .val (.int (p1 &&& (7 : Int32))), .val (.double (9223372036854775808 : UInt64)), .second, .val (.int (0 : Int32)), .unset, .unset, .unset, .unset]) rfl ?_
              show Steps p.tables e below (T8.setTop (mkF m 133 #[.val (.int p0), .val (.int p1), .val (.int p2), .val (.int p3), .val (.long q4), .second, .val (.int stn), .val (.ref b5), .val (.int (p1 &&& (7 : Int32))), .val (.double (9223372036854775808 : UInt64)), .second, .val (.int (0 : Int32)), .unset, .unset, .unset, .unset] [])) _
              refine XS.goto X8.here hx rfl (pc0 := 133) (pc' := 218) rfl (hb hby at_133) (by decide) (by decide) ?_
              show Steps p.tables e below (T8.setTop (mkF m 218 #[.val (.int p0), .val (.int p1), .val (.int p2), .val (.int p3), .val (.long q4), .second, .val (.int stn), .val (.ref b5), .val (.int (p1 &&& (7 : Int32))), .val (.double (9223372036854775808 : UInt64)), .second, .val (.int (0 : Int32)), .unset, .unset, .unset, .unset] [])) _
              refine XS.aload X8.here hx rfl (hb hby at_218) rfl rfl ?_
              show Steps p.tables e below (T8.setTop (mkF m 220 #[.val (.int p0), .val (.int p1), .val (.int p2), .val (.int p3), .val (.long q4), .second, .val (.int stn), .val (.ref b5), .val (.int (p1 &&& (7 : Int32))), .val (.double (9223372036854775808 : UInt64)), .second, .val (.int (0 : Int32)), .unset, .unset, .unset, .unset] [(.ref b5)])) _
              refine XS.dload X8.here hx rfl (hb hby at_220) rfl ?_
              exact k
            obtain ⟨cq43, kq43, q43a, q43b, q43c⟩ := isOf hZ rfl (A5.keep K8q)
            obtain ⟨_, _, ⟨T43, L43, k43, n43⟩, -, X43, ⟨Lc43, hQ43, l43, y43, z43⟩, st43⟩ := X8.virtualBack hx (y := (⟨"com/example/placewright/placewright/scheme/Broadcast", "bandwidth", "(D)D"⟩ : MethodName)) (z := (⟨"com/example/placewright/placewright/scheme/Broadcast", "bandwidth", "(D)D"⟩ : MethodName)) hown (mvT hZ (hw _ (List.mem_of_getElem? (i := 22) rfl))) (mvT hZ (hw _ (List.mem_of_getElem? (i := 23) rfl))) (notFace_of_selects (args := #[]) (mvT hZ (hw _ (List.mem_of_getElem? (i := 25) rfl)))) (mvT hZ (hw _ (List.mem_of_getElem? (i := 25) rfl))) (mvT hZ (hw _ (List.mem_of_getElem? (i := 24) rfl))) (by decide) (backOf (W := 0) (rmB l Z a0 hw [] b5 (9223372036854775808 : UInt64) stn T8.heap n0 (Nat.le_trans (Nat.le_trans Z0 E5.1) K8q.1) G8_0) hZ (hw _ (List.mem_of_getElem? (i := 26) rfl)) (hw _ (List.mem_of_getElem? (i := 7) rfl)) (by decide) (by decide)) q43a q43c (g := (mkF m 222 #[.val (.int p0), .val (.int p1), .val (.int p2), .val (.int p3), .val (.long q4), .second, .val (.int stn), .val (.ref b5), .val (.int (p1 &&& (7 : Int32))), .val (.double (9223372036854775808 : UInt64)), .second, .val (.int (0 : Int32)), .unset, .unset, .unset, .unset] [(.double (9223372036854775808 : UInt64)), (.ref b5)])) rfl (by rw [hml]; rfl) (Steps.refl _) (argsL := [(.double (9223372036854775808 : UInt64))]) (rest := []) (lenOf own_pd3 rfl) rfl (by show 2 * 0 + _ ≤ _; exact Nat.le_of_eq rfl) (hb hby at_222) (fun _ _ => ⟨rfl, rfl, (by decide : 1 + 0 ≤ _), (by decide : 1 + 0 ≤ _)⟩)
            dsimp only [Pt.U, Pt.locs, Pt.cells, Pt.slots] at X43 l43 y43 z43 st43 hQ43
            subst l43 y43 z43
            obtain ⟨rfl, N43q, e43q⟩ := hQ43
            have N43 := Fr.app N8 N43q
            have a44 : ∀ t, Steps p.tables e below (T43.setTop (mkF m 225 #[.val (.int p0), .val (.int p1), .val (.int p2), .val (.int p3), .val (.long q4), .second, .val (.int stn), .val (.ref b5), .val (.int (p1 &&& (7 : Int32))), .val (.double (9223372036854775808 : UInt64)), .second, .val (.int (0 : Int32)), .unset, .unset, .unset, .unset] [(.double (if FP.dcmp (9223372036854775808 : UInt64) 0 = some .gt then FP.i2d stn else 0))])) t → Steps p.tables e below (s₁.setTop (entryFrame m #[(.int p0), (.int p1), (.int p2), (.int p3), (.long q4)] maxLocals)) t := fun t k => a42 t (st43.trans k)
            obtain ⟨r, h_r⟩ : ∃ z : UInt64, z = (if FP.dcmp (9223372036854775808 : UInt64) 0 = some .gt then FP.i2d stn else 0) := ⟨_, rfl⟩
            rw [← h_r] at a44
            have a45 : ∀ t, Steps p.tables e below (T43.setTop (mkF m 254 #[.val (.int p0), .val (.int p1), .val (.int p2), .val (.int p3), .val (.long q4), .second, .val (.int stn), .val (.ref b5), .val (.int (p1 &&& (7 : Int32))), .val (.double (9223372036854775808 : UInt64)), .second, .val (.int (0 : Int32)), .val (.double r), .second, .val (.double (0 : UInt64)), .second] [(.int (1 : Int32))])) t → Steps p.tables e below (s₁.setTop (entryFrame m #[(.int p0), (.int p1), (.int p2), (.int p3), (.long q4)] maxLocals)) t := by
              intro t k
              refine a44 t ?_
              show Steps p.tables e below (T43.setTop (mkF m 225 #[.val (.int p0), .val (.int p1), .val (.int p2), .val (.int p3), .val (.long q4), .second, .val (.int stn), .val (.ref b5), .val (.int (p1 &&& (7 : Int32))), .val (.double (9223372036854775808 : UInt64)), .second, .val (.int (0 : Int32)), .unset, .unset, .unset, .unset] [(.double r)])) _
              refine XS.dstore X43.here hx rfl (hb hby at_225) rfl (l' := #[.val (.int p0), .val (.int p1), .val (.int p2), .val (.int p3), .val (.long q4), .second, .val (.int stn), .val (.ref b5), .val (.int (p1 &&& (7 : Int32))), .val (.double (9223372036854775808 : UInt64)), .second, .val (.int (0 : Int32)), .val (.double r), .second, .unset, .unset]) rfl ?_
              show Steps p.tables e below (T43.setTop (mkF m 227 #[.val (.int p0), .val (.int p1), .val (.int p2), .val (.int p3), .val (.long q4), .second, .val (.int stn), .val (.ref b5), .val (.int (p1 &&& (7 : Int32))), .val (.double (9223372036854775808 : UInt64)), .second, .val (.int (0 : Int32)), .val (.double r), .second, .unset, .unset] [])) _
              refine XS.iload X43.here hx rfl (hb hby at_227) rfl ?_
              show Steps p.tables e below (T43.setTop (mkF m 229 #[.val (.int p0), .val (.int p1), .val (.int p2), .val (.int p3), .val (.long q4), .second, .val (.int stn), .val (.ref b5), .val (.int (p1 &&& (7 : Int32))), .val (.double (9223372036854775808 : UInt64)), .second, .val (.int (0 : Int32)), .val (.double r), .second, .unset, .unset] [(.int (0 : Int32))])) _
              refine XS.ifYes X43.here hx rfl (pc0 := 229) (pc' := 238) rfl (hb hby at_229) rfl ((if0 _ _).trans (teq rfl).1) (by decide) (by decide) ?_
              show Steps p.tables e below (T43.setTop (mkF m 238 #[.val (.int p0), .val (.int p1), .val (.int p2), .val (.int p3), .val (.long q4), .second, .val (.int stn), .val (.ref b5), .val (.int (p1 &&& (7 : Int32))), .val (.double (9223372036854775808 : UInt64)), .second, .val (.int (0 : Int32)), .val (.double r), .second, .unset, .unset] [])) _
              refine XS.dconst0 X43.here hx rfl (hb hby at_238) (v := 0) rfl ?_
              show Steps p.tables e below (T43.setTop (mkF m 239 #[.val (.int p0), .val (.int p1), .val (.int p2), .val (.int p3), .val (.long q4), .second, .val (.int stn), .val (.ref b5), .val (.int (p1 &&& (7 : Int32))), .val (.double (9223372036854775808 : UInt64)), .second, .val (.int (0 : Int32)), .val (.double r), .second, .unset, .unset] [(.double (0 : UInt64))])) _
              refine XS.dstore X43.here hx rfl (hb hby at_239) rfl (l' := #[.val (.int p0), .val (.int p1), .val (.int p2), .val (.int p3), .val (.long q4), .second, .val (.int stn), .val (.ref b5), .val (.int (p1 &&& (7 : Int32))), .val (.double (9223372036854775808 : UInt64)), .second, .val (.int (0 : Int32)), .val (.double r), .second, .val (.double (0 : UInt64)), .second]) rfl ?_
              show Steps p.tables e below (T43.setTop (mkF m 241 #[.val (.int p0), .val (.int p1), .val (.int p2), .val (.int p3), .val (.long q4), .second, .val (.int stn), .val (.ref b5), .val (.int (p1 &&& (7 : Int32))), .val (.double (9223372036854775808 : UInt64)), .second, .val (.int (0 : Int32)), .val (.double r), .second, .val (.double (0 : UInt64)), .second] [])) _
              refine XS.dload X43.here hx rfl (hb hby at_241) rfl ?_
              show Steps p.tables e below (T43.setTop (mkF m 243 #[.val (.int p0), .val (.int p1), .val (.int p2), .val (.int p3), .val (.long q4), .second, .val (.int stn), .val (.ref b5), .val (.int (p1 &&& (7 : Int32))), .val (.double (9223372036854775808 : UInt64)), .second, .val (.int (0 : Int32)), .val (.double r), .second, .val (.double (0 : UInt64)), .second] [(.double r)])) _
              refine XS.dload X43.here hx rfl (hb hby at_243) rfl ?_
              show Steps p.tables e below (T43.setTop (mkF m 245 #[.val (.int p0), .val (.int p1), .val (.int p2), .val (.int p3), .val (.long q4), .second, .val (.int stn), .val (.ref b5), .val (.int (p1 &&& (7 : Int32))), .val (.double (9223372036854775808 : UInt64)), .second, .val (.int (0 : Int32)), .val (.double r), .second, .val (.double (0 : UInt64)), .second] [(.double (0 : UInt64)), (.double r)])) _
              refine XS.dcmpS X43.here hx rfl (hb hby at_245) rfl rfl ?_
              show Steps p.tables e below (T43.setTop (mkF m 246 #[.val (.int p0), .val (.int p1), .val (.int p2), .val (.int p3), .val (.long q4), .second, .val (.int stn), .val (.ref b5), .val (.int (p1 &&& (7 : Int32))), .val (.double (9223372036854775808 : UInt64)), .second, .val (.int (0 : Int32)), .val (.double r), .second, .val (.double (0 : UInt64)), .second] [(.int (cmpValue (FP.dcmp r (0 : UInt64)) .l))])) _
              refine XS.ifNo X43.here hx rfl (hb hby at_246) rfl ((if0 _ _).trans (teq (own_no h_r (by decide +kernel))).2) ?_
              show Steps p.tables e below (T43.setTop (mkF m 249 #[.val (.int p0), .val (.int p1), .val (.int p2), .val (.int p3), .val (.long q4), .second, .val (.int stn), .val (.ref b5), .val (.int (p1 &&& (7 : Int32))), .val (.double (9223372036854775808 : UInt64)), .second, .val (.int (0 : Int32)), .val (.double r), .second, .val (.double (0 : UInt64)), .second] [])) _
              refine XS.iconst X43.here hx rfl (hb hby at_249) ?_
              show Steps p.tables e below (T43.setTop (mkF m 250 #[.val (.int p0), .val (.int p1), .val (.int p2), .val (.int p3), .val (.long q4), .second, .val (.int stn), .val (.ref b5), .val (.int (p1 &&& (7 : Int32))), .val (.double (9223372036854775808 : UInt64)), .second, .val (.int (0 : Int32)), .val (.double r), .second, .val (.double (0 : UInt64)), .second] [(.int (1 : Int32))])) _
              refine XS.goto X43.here hx rfl (pc0 := 250) (pc' := 254) rfl (hb hby at_250) (by decide) (by decide) ?_
              exact k
            obtain ⟨fs, hr, hrun, hended, hW, hsame⟩ := X43.leave (v := some (.int (1 : Int32))) (fun h => by rw [Bd.returns] at h; cases h)
            refine ⟨_, _, a45 _ ?_, hrun, hended, _, _, rfl, ?_, ⟨_, rfl⟩, hW, hsame.mono (by decide) (by decide)⟩
            · show Steps p.tables e below (T43.setTop (mkF m 254 #[.val (.int p0), .val (.int p1), .val (.int p2), .val (.int p3), .val (.long q4), .second, .val (.int stn), .val (.ref b5), .val (.int (p1 &&& (7 : Int32))), .val (.double (9223372036854775808 : UInt64)), .second, .val (.int (0 : Int32)), .val (.double r), .second, .val (.double (0 : UInt64)), .second] [(.int (1 : Int32))])) _
              exact retN X43 hx (t := .boolean) Bd.returns (by simp) (hb hby at_254) hr
            · show Q0 Z p0 p1 p2 p3 q4 h0 n0 _ T43.heap _
              rw [e43q]
              exact ⟨rfl, N43⟩
          ·
            have a46 : ∀ t, Steps p.tables e below (T8.setTop (mkF m 139 #[.val (.int p0), .val (.int p1), .val (.int p2), .val (.int p3), .val (.long q4), .second, .val (.int stn), .val (.ref b5), .val (.int (p1 &&& (7 : Int32))), .unset, .unset, .unset, .unset, .unset, .unset, .unset] [(.int (5 : Int32)), (.int (p1 &&& (7 : Int32)))])) t → Steps p.tables e below (s₁.setTop (entryFrame m #[(.int p0), (.int p1), (.int p2), (.int p3), (.long q4)] maxLocals)) t := by
              intro t k
              refine a40 t ?_
              show Steps p.tables e below (T8.setTop (mkF m 122 #[.val (.int p0), .val (.int p1), .val (.int p2), .val (.int p3), .val (.long q4), .second, .val (.int stn), .val (.ref b5), .val (.int (p1 &&& (7 : Int32))), .unset, .unset, .unset, .unset, .unset, .unset, .unset] [(.int (4 : Int32)), (.int (p1 &&& (7 : Int32)))])) _
              refine XS.icmpYes X8.here hx rfl (pc0 := 122) (pc' := 136) rfl (hb hby at_122) rfl (feq hc122_41).2 (by decide) (by decide) ?_
              show Steps p.tables e below (T8.setTop (mkF m 136 #[.val (.int p0), .val (.int p1), .val (.int p2), .val (.int p3), .val (.long q4), .second, .val (.int stn), .val (.ref b5), .val (.int (p1 &&& (7 : Int32))), .unset, .unset, .unset, .unset, .unset, .unset, .unset] [])) _
              refine XS.iload X8.here hx rfl (hb hby at_136) rfl ?_
              show Steps p.tables e below (T8.setTop (mkF m 138 #[.val (.int p0), .val (.int p1), .val (.int p2), .val (.int p3), .val (.long q4), .second, .val (.int stn), .val (.ref b5), .val (.int (p1 &&& (7 : Int32))), .unset, .unset, .unset, .unset, .unset, .unset, .unset] [(.int (p1 &&& (7 : Int32)))])) _
              refine XS.iconst X8.here hx rfl (hb hby at_138) ?_
              exact k
            by_cases hc139_47 : (p1 &&& (7 : Int32)) = (5 : Int32)
            ·
              have a48 : ∀ t, Steps p.tables e below (T8.setTop (mkF m 222 #[.val (.int p0), .val (.int p1), .val (.int p2), .val (.int p3), .val (.long q4), .second, .val (.int stn), .val (.ref b5), .val (.int (p1 &&& (7 : Int32))), .val (.double (9214871658872686752 : UInt64)), .second, .val (.int (1 : Int32)), .unset, .unset, .unset, .unset] [(.double (9214871658872686752 : UInt64)), (.ref b5)])) t → Steps p.tables e below (s₁.setTop (entryFrame m #[(.int p0), (.int p1), (.int p2), (.int p3), (.long q4)] maxLocals)) t := by
                intro t k
                refine a46 t ?_
                show Steps p.tables e below (T8.setTop (mkF m 139 #[.val (.int p0), .val (.int p1), .val (.int p2), .val (.int p3), .val (.long q4), .second, .val (.int stn), .val (.ref b5), .val (.int (p1 &&& (7 : Int32))), .unset, .unset, .unset, .unset, .unset, .unset, .unset] [(.int (5 : Int32)), (.int (p1 &&& (7 : Int32)))])) _
                refine XS.icmpNo X8.here hx rfl (hb hby at_139) rfl (teq hc139_47).2 ?_
                show Steps p.tables e below (T8.setTop (mkF m 142 #[.val (.int p0), .val (.int p1), .val (.int p2), .val (.int p3), .val (.long q4), .second, .val (.int stn), .val (.ref b5), .val (.int (p1 &&& (7 : Int32))), .unset, .unset, .unset, .unset, .unset, .unset, .unset] [])) _
                refine X8.ldc2DoubleC hx hown (mvT hZ (hw _ (List.mem_of_getElem? (i := 29) rfl))) (g := (mkF m 142 #[.val (.int p0), .val (.int p1), .val (.int p2), .val (.int p3), .val (.long q4), .second, .val (.int stn), .val (.ref b5), .val (.int (p1 &&& (7 : Int32))), .unset, .unset, .unset, .unset, .unset, .unset, .unset] [])) rfl (hb hby at_142) _ ?_
                show Steps p.tables e below (T8.setTop (mkF m 145 #[.val (.int p0), .val (.int p1), .val (.int p2), .val (.int p3), .val (.long q4), .second, .val (.int stn), .val (.ref b5), .val (.int (p1 &&& (7 : Int32))), .unset, .unset, .unset, .unset, .unset, .unset, .unset] [(.double (9214871658872686752 : UInt64))])) _
                refine XS.dstore X8.here hx rfl (hb hby at_145) rfl (l' := #[.val (.int p0), .val (.int p1), .val (.int p2), .val (.int p3), .val (.long q4), .second, .val (.int stn), .val (.ref b5), .val (.int (p1 &&& (7 : Int32))), .val (.double (9214871658872686752 : UInt64)), .second, .unset, .unset, .unset, .unset, .unset]) rfl ?_
                show Steps p.tables e below (T8.setTop (mkF m 147 #[.val (.int p0), .val (.int p1), .val (.int p2), .val (.int p3), .val (.long q4), .second, .val (.int stn), .val (.ref b5), .val (.int (p1 &&& (7 : Int32))), .val (.double (9214871658872686752 : UInt64)), .second, .unset, .unset, .unset, .unset, .unset] [])) _
                refine XS.iconst X8.here hx rfl (hb hby at_147) ?_
                show Steps p.tables e below (T8.setTop (mkF m 148 #[.val (.int p0), .val (.int p1), .val (.int p2), .val (.int p3), .val (.long q4), .second, .val (.int stn), .val (.ref b5), .val (.int (p1 &&& (7 : Int32))), .val (.double (9214871658872686752 : UInt64)), .second, .unset, .unset, .unset, .unset, .unset] [(.int (1 : Int32))])) _
                refine XS.istore X8.here hx rfl (hb hby at_148) rfl (l' := #[.val (.int p0), .val (.int p1), .val (.int p2), .val (.int p3), .val (.long q4), .second, .val (.int stn), .val (.ref b5), .val (.int (p1 &&& (7 : Int32))), .val (.double (9214871658872686752 : UInt64)), .second, .val (.int (1 : Int32)), .unset, .unset, .unset, .unset]) rfl ?_
                show Steps p.tables e below (T8.setTop (mkF m 150 #[.val (.int p0), .val (.int p1), .val (.int p2), .val (.int p3), .val (.long q4), .second, .val (.int stn), .val (.ref b5), .val (.int (p1 &&& (7 : Int32))), .val (.double (9214871658872686752 : UInt64)), .second, .val (.int (1 : Int32)), .unset, .unset, .unset, .unset] [])) _
                refine XS.goto X8.here hx rfl (pc0 := 150) (pc' := 218) rfl (hb hby at_150) (by decide) (by decide) ?_
                show Steps p.tables e below (T8.setTop (mkF m 218 #[.val (.int p0), .val (.int p1), .val (.int p2), .val (.int p3), .val (.long q4), .second, .val (.int stn), .val (.ref b5), .val (.int (p1 &&& (7 : Int32))), .val (.double (9214871658872686752 : UInt64)), .second, .val (.int (1 : Int32)), .unset, .unset, .unset, .unset] [])) _
                refine XS.aload X8.here hx rfl (hb hby at_218) rfl rfl ?_
                show Steps p.tables e below (T8.setTop (mkF m 220 #[.val (.int p0), .val (.int p1), .val (.int p2), .val (.int p3), .val (.long q4), .second, .val (.int stn), .val (.ref b5), .val (.int (p1 &&& (7 : Int32))), .val (.double (9214871658872686752 : UInt64)), .second, .val (.int (1 : Int32)), .unset, .unset, .unset, .unset] [(.ref b5)])) _
                refine XS.dload X8.here hx rfl (hb hby at_220) rfl ?_
                exact k
              obtain ⟨cq49, kq49, q49a, q49b, q49c⟩ := isOf hZ rfl (A5.keep K8q)
              obtain ⟨_, _, ⟨T49, L49, k49, n49⟩, -, X49, ⟨Lc49, hQ49, l49, y49, z49⟩, st49⟩ := X8.virtualBack hx (y := (⟨"com/example/placewright/placewright/scheme/Broadcast", "bandwidth", "(D)D"⟩ : MethodName)) (z := (⟨"com/example/placewright/placewright/scheme/Broadcast", "bandwidth", "(D)D"⟩ : MethodName)) hown (mvT hZ (hw _ (List.mem_of_getElem? (i := 22) rfl))) (mvT hZ (hw _ (List.mem_of_getElem? (i := 23) rfl))) (notFace_of_selects (args := #[]) (mvT hZ (hw _ (List.mem_of_getElem? (i := 25) rfl)))) (mvT hZ (hw _ (List.mem_of_getElem? (i := 25) rfl))) (mvT hZ (hw _ (List.mem_of_getElem? (i := 24) rfl))) (by decide) (backOf (W := 0) (rmB l Z a0 hw [] b5 (9214871658872686752 : UInt64) stn T8.heap n0 (Nat.le_trans (Nat.le_trans Z0 E5.1) K8q.1) G8_0) hZ (hw _ (List.mem_of_getElem? (i := 26) rfl)) (hw _ (List.mem_of_getElem? (i := 7) rfl)) (by decide) (by decide)) q49a q49c (g := (mkF m 222 #[.val (.int p0), .val (.int p1), .val (.int p2), .val (.int p3), .val (.long q4), .second, .val (.int stn), .val (.ref b5), .val (.int (p1 &&& (7 : Int32))), .val (.double (9214871658872686752 : UInt64)), .second, .val (.int (1 : Int32)), .unset, .unset, .unset, .unset] [(.double (9214871658872686752 : UInt64)), (.ref b5)])) rfl (by rw [hml]; rfl) (Steps.refl _) (argsL := [(.double (9214871658872686752 : UInt64))]) (rest := []) (lenOf own_pd3 rfl) rfl (by show 2 * 0 + _ ≤ _; exact Nat.le_of_eq rfl) (hb hby at_222) (fun _ _ => ⟨rfl, rfl, (by decide : 1 + 0 ≤ _), (by decide : 1 + 0 ≤ _)⟩)
              dsimp only [Pt.U, Pt.locs, Pt.cells, Pt.slots] at X49 l49 y49 z49 st49 hQ49
              subst l49 y49 z49
              obtain ⟨rfl, N49q, e49q⟩ := hQ49
              have N49 := Fr.app N8 N49q
              have a50 : ∀ t, Steps p.tables e below (T49.setTop (mkF m 225 #[.val (.int p0), .val (.int p1), .val (.int p2), .val (.int p3), .val (.long q4), .second, .val (.int stn), .val (.ref b5), .val (.int (p1 &&& (7 : Int32))), .val (.double (9214871658872686752 : UInt64)), .second, .val (.int (1 : Int32)), .unset, .unset, .unset, .unset] [(.double (if FP.dcmp (9214871658872686752 : UInt64) 0 = some .gt then FP.i2d stn else 0))])) t → Steps p.tables e below (s₁.setTop (entryFrame m #[(.int p0), (.int p1), (.int p2), (.int p3), (.long q4)] maxLocals)) t := fun t k => a48 t (st49.trans k)
              obtain ⟨r, h_r⟩ : ∃ z : UInt64, z = (if FP.dcmp (9214871658872686752 : UInt64) 0 = some .gt then FP.i2d stn else 0) := ⟨_, rfl⟩
              rw [← h_r] at a50
              have a51 : ∀ t, Steps p.tables e below (T49.setTop (mkF m 254 #[.val (.int p0), .val (.int p1), .val (.int p2), .val (.int p3), .val (.long q4), .second, .val (.int stn), .val (.ref b5), .val (.int (p1 &&& (7 : Int32))), .val (.double (9214871658872686752 : UInt64)), .second, .val (.int (1 : Int32)), .val (.double r), .second, .val (.double (FP.i2d stn)), .second] [(.int (1 : Int32))])) t → Steps p.tables e below (s₁.setTop (entryFrame m #[(.int p0), (.int p1), (.int p2), (.int p3), (.long q4)] maxLocals)) t := by
                intro t k
                refine a50 t ?_
                show Steps p.tables e below (T49.setTop (mkF m 225 #[.val (.int p0), .val (.int p1), .val (.int p2), .val (.int p3), .val (.long q4), .second, .val (.int stn), .val (.ref b5), .val (.int (p1 &&& (7 : Int32))), .val (.double (9214871658872686752 : UInt64)), .second, .val (.int (1 : Int32)), .unset, .unset, .unset, .unset] [(.double r)])) _
                refine XS.dstore X49.here hx rfl (hb hby at_225) rfl (l' := #[.val (.int p0), .val (.int p1), .val (.int p2), .val (.int p3), .val (.long q4), .second, .val (.int stn), .val (.ref b5), .val (.int (p1 &&& (7 : Int32))), .val (.double (9214871658872686752 : UInt64)), .second, .val (.int (1 : Int32)), .val (.double r), .second, .unset, .unset]) rfl ?_
                show Steps p.tables e below (T49.setTop (mkF m 227 #[.val (.int p0), .val (.int p1), .val (.int p2), .val (.int p3), .val (.long q4), .second, .val (.int stn), .val (.ref b5), .val (.int (p1 &&& (7 : Int32))), .val (.double (9214871658872686752 : UInt64)), .second, .val (.int (1 : Int32)), .val (.double r), .second, .unset, .unset] [])) _
                refine XS.iload X49.here hx rfl (hb hby at_227) rfl ?_
                show Steps p.tables e below (T49.setTop (mkF m 229 #[.val (.int p0), .val (.int p1), .val (.int p2), .val (.int p3), .val (.long q4), .second, .val (.int stn), .val (.ref b5), .val (.int (p1 &&& (7 : Int32))), .val (.double (9214871658872686752 : UInt64)), .second, .val (.int (1 : Int32)), .val (.double r), .second, .unset, .unset] [(.int (1 : Int32))])) _
                refine XS.ifNo X49.here hx rfl (hb hby at_229) rfl ((if0 _ _).trans (feq (by decide)).1) ?_
                show Steps p.tables e below (T49.setTop (mkF m 232 #[.val (.int p0), .val (.int p1), .val (.int p2), .val (.int p3), .val (.long q4), .second, .val (.int stn), .val (.ref b5), .val (.int (p1 &&& (7 : Int32))), .val (.double (9214871658872686752 : UInt64)), .second, .val (.int (1 : Int32)), .val (.double r), .second, .unset, .unset] [])) _
                refine XS.iload X49.here hx rfl (hb hby at_232) rfl ?_
                show Steps p.tables e below (T49.setTop (mkF m 234 #[.val (.int p0), .val (.int p1), .val (.int p2), .val (.int p3), .val (.long q4), .second, .val (.int stn), .val (.ref b5), .val (.int (p1 &&& (7 : Int32))), .val (.double (9214871658872686752 : UInt64)), .second, .val (.int (1 : Int32)), .val (.double r), .second, .unset, .unset] [(.int stn)])) _
                refine XS.i2dS X49.here hx rfl (hb hby at_234) rfl rfl ?_
                show Steps p.tables e below (T49.setTop (mkF m 235 #[.val (.int p0), .val (.int p1), .val (.int p2), .val (.int p3), .val (.long q4), .second, .val (.int stn), .val (.ref b5), .val (.int (p1 &&& (7 : Int32))), .val (.double (9214871658872686752 : UInt64)), .second, .val (.int (1 : Int32)), .val (.double r), .second, .unset, .unset] [(.double (FP.i2d stn))])) _
                refine XS.goto X49.here hx rfl (pc0 := 235) (pc' := 239) rfl (hb hby at_235) (by decide) (by decide) ?_
                show Steps p.tables e below (T49.setTop (mkF m 239 #[.val (.int p0), .val (.int p1), .val (.int p2), .val (.int p3), .val (.long q4), .second, .val (.int stn), .val (.ref b5), .val (.int (p1 &&& (7 : Int32))), .val (.double (9214871658872686752 : UInt64)), .second, .val (.int (1 : Int32)), .val (.double r), .second, .unset, .unset] [(.double (FP.i2d stn))])) _
                refine XS.dstore X49.here hx rfl (hb hby at_239) rfl (l' := #[.val (.int p0), .val (.int p1), .val (.int p2), .val (.int p3), .val (.long q4), .second, .val (.int stn), .val (.ref b5), .val (.int (p1 &&& (7 : Int32))), .val (.double (9214871658872686752 : UInt64)), .second, .val (.int (1 : Int32)), .val (.double r), .second, .val (.double (FP.i2d stn)), .second]) rfl ?_
                show Steps p.tables e below (T49.setTop (mkF m 241 #[.val (.int p0), .val (.int p1), .val (.int p2), .val (.int p3), .val (.long q4), .second, .val (.int stn), .val (.ref b5), .val (.int (p1 &&& (7 : Int32))), .val (.double (9214871658872686752 : UInt64)), .second, .val (.int (1 : Int32)), .val (.double r), .second, .val (.double (FP.i2d stn)), .second] [])) _
                refine XS.dload X49.here hx rfl (hb hby at_241) rfl ?_
                show Steps p.tables e below (T49.setTop (mkF m 243 #[.val (.int p0), .val (.int p1), .val (.int p2), .val (.int p3), .val (.long q4), .second, .val (.int stn), .val (.ref b5), .val (.int (p1 &&& (7 : Int32))), .val (.double (9214871658872686752 : UInt64)), .second, .val (.int (1 : Int32)), .val (.double r), .second, .val (.double (FP.i2d stn)), .second] [(.double r)])) _
                refine XS.dload X49.here hx rfl (hb hby at_243) rfl ?_
                show Steps p.tables e below (T49.setTop (mkF m 245 #[.val (.int p0), .val (.int p1), .val (.int p2), .val (.int p3), .val (.long q4), .second, .val (.int stn), .val (.ref b5), .val (.int (p1 &&& (7 : Int32))), .val (.double (9214871658872686752 : UInt64)), .second, .val (.int (1 : Int32)), .val (.double r), .second, .val (.double (FP.i2d stn)), .second] [(.double (FP.i2d stn)), (.double r)])) _
                refine XS.dcmpS X49.here hx rfl (hb hby at_245) rfl rfl ?_
                show Steps p.tables e below (T49.setTop (mkF m 246 #[.val (.int p0), .val (.int p1), .val (.int p2), .val (.int p3), .val (.long q4), .second, .val (.int stn), .val (.ref b5), .val (.int (p1 &&& (7 : Int32))), .val (.double (9214871658872686752 : UInt64)), .second, .val (.int (1 : Int32)), .val (.double r), .second, .val (.double (FP.i2d stn)), .second] [(.int (cmpValue (FP.dcmp r (FP.i2d stn)) .l))])) _
                refine XS.ifNo X49.here hx rfl (hb hby at_246) rfl ((if0 _ _).trans (teq (own_yes h_r (by decide +kernel))).2) ?_
                show Steps p.tables e below (T49.setTop (mkF m 249 #[.val (.int p0), .val (.int p1), .val (.int p2), .val (.int p3), .val (.long q4), .second, .val (.int stn), .val (.ref b5), .val (.int (p1 &&& (7 : Int32))), .val (.double (9214871658872686752 : UInt64)), .second, .val (.int (1 : Int32)), .val (.double r), .second, .val (.double (FP.i2d stn)), .second] [])) _
                refine XS.iconst X49.here hx rfl (hb hby at_249) ?_
                show Steps p.tables e below (T49.setTop (mkF m 250 #[.val (.int p0), .val (.int p1), .val (.int p2), .val (.int p3), .val (.long q4), .second, .val (.int stn), .val (.ref b5), .val (.int (p1 &&& (7 : Int32))), .val (.double (9214871658872686752 : UInt64)), .second, .val (.int (1 : Int32)), .val (.double r), .second, .val (.double (FP.i2d stn)), .second] [(.int (1 : Int32))])) _
                refine XS.goto X49.here hx rfl (pc0 := 250) (pc' := 254) rfl (hb hby at_250) (by decide) (by decide) ?_
                exact k
              obtain ⟨fs, hr, hrun, hended, hW, hsame⟩ := X49.leave (v := some (.int (1 : Int32))) (fun h => by rw [Bd.returns] at h; cases h)
              refine ⟨_, _, a51 _ ?_, hrun, hended, _, _, rfl, ?_, ⟨_, rfl⟩, hW, hsame.mono (by decide) (by decide)⟩
              · show Steps p.tables e below (T49.setTop (mkF m 254 #[.val (.int p0), .val (.int p1), .val (.int p2), .val (.int p3), .val (.long q4), .second, .val (.int stn), .val (.ref b5), .val (.int (p1 &&& (7 : Int32))), .val (.double (9214871658872686752 : UInt64)), .second, .val (.int (1 : Int32)), .val (.double r), .second, .val (.double (FP.i2d stn)), .second] [(.int (1 : Int32))])) _
                exact retN X49 hx (t := .boolean) Bd.returns (by simp) (hb hby at_254) hr
              · show Q0 Z p0 p1 p2 p3 q4 h0 n0 _ T49.heap _
                rw [e49q]
                exact ⟨rfl, N49⟩
            ·
              have a52 : ∀ t, Steps p.tables e below (T8.setTop (mkF m 157 #[.val (.int p0), .val (.int p1), .val (.int p2), .val (.int p3), .val (.long q4), .second, .val (.int stn), .val (.ref b5), .val (.int (p1 &&& (7 : Int32))), .unset, .unset, .unset, .unset, .unset, .unset, .unset] [(.int (6 : Int32)), (.int (p1 &&& (7 : Int32)))])) t → Steps p.tables e below (s₁.setTop (entryFrame m #[(.int p0), (.int p1), (.int p2), (.int p3), (.long q4)] maxLocals)) t := by
                intro t k
                refine a46 t ?_
                show Steps p.tables e below (T8.setTop (mkF m 139 #[.val (.int p0), .val (.int p1), .val (.int p2), .val (.int p3), .val (.long q4), .second, .val (.int stn), .val (.ref b5), .val (.int (p1 &&& (7 : Int32))), .unset, .unset, .unset, .unset, .unset, .unset, .unset] [(.int (5 : Int32)), (.int (p1 &&& (7 : Int32)))])) _
                refine XS.icmpYes X8.here hx rfl (pc0 := 139) (pc' := 153) rfl (hb hby at_139) rfl (feq hc139_47).2 (by decide) (by decide) ?_
                show Steps p.tables e below (T8.setTop (mkF m 153 #[.val (.int p0), .val (.int p1), .val (.int p2), .val (.int p3), .val (.long q4), .second, .val (.int stn), .val (.ref b5), .val (.int (p1 &&& (7 : Int32))), .unset, .unset, .unset, .unset, .unset, .unset, .unset] [])) _
                refine XS.iload X8.here hx rfl (hb hby at_153) rfl ?_
                show Steps p.tables e below (T8.setTop (mkF m 155 #[.val (.int p0), .val (.int p1), .val (.int p2), .val (.int p3), .val (.long q4), .second, .val (.int stn), .val (.ref b5), .val (.int (p1 &&& (7 : Int32))), .unset, .unset, .unset, .unset, .unset, .unset, .unset] [(.int (p1 &&& (7 : Int32)))])) _
                refine XS.bipush X8.here hx rfl (hb hby at_155) ?_
                exact k
              by_cases hc157_53 : (p1 &&& (7 : Int32)) = (6 : Int32)
              ·
                have a54 : ∀ t, Steps p.tables e below (T8.setTop (mkF m 178 #[.val (.int p0), .val (.int p1), .val (.int p2), .val (.int p3), .val (.long q4), .second, .val (.int stn), .val (.ref b5), .val (.int (p1 &&& (7 : Int32))), .val (.double (FP.ddiv (FP.i2d (p2 &&& (255 : Int32))) (4652218415073722368 : UInt64))), .second, .unset, .val (.int (p2 &&& (255 : Int32))), .unset, .unset, .unset] [(.int (p2 &&& (255 : Int32)))])) t → Steps p.tables e below (s₁.setTop (entryFrame m #[(.int p0), (.int p1), (.int p2), (.int p3), (.long q4)] maxLocals)) t := by
                  intro t k
                  refine a52 t ?_
                  show Steps p.tables e below (T8.setTop (mkF m 157 #[.val (.int p0), .val (.int p1), .val (.int p2), .val (.int p3), .val (.long q4), .second, .val (.int stn), .val (.ref b5), .val (.int (p1 &&& (7 : Int32))), .unset, .unset, .unset, .unset, .unset, .unset, .unset] [(.int (6 : Int32)), (.int (p1 &&& (7 : Int32)))])) _
                  refine XS.icmpNo X8.here hx rfl (hb hby at_157) rfl (teq hc157_53).2 ?_
                  show Steps p.tables e below (T8.setTop (mkF m 160 #[.val (.int p0), .val (.int p1), .val (.int p2), .val (.int p3), .val (.long q4), .second, .val (.int stn), .val (.ref b5), .val (.int (p1 &&& (7 : Int32))), .unset, .unset, .unset, .unset, .unset, .unset, .unset] [])) _
                  refine XS.iloadN X8.here hx rfl (hb hby at_160) rfl ?_
                  show Steps p.tables e below (T8.setTop (mkF m 161 #[.val (.int p0), .val (.int p1), .val (.int p2), .val (.int p3), .val (.long q4), .second, .val (.int stn), .val (.ref b5), .val (.int (p1 &&& (7 : Int32))), .unset, .unset, .unset, .unset, .unset, .unset, .unset] [(.int p2)])) _
                  refine XS.sipush X8.here hx rfl (hb hby at_161) ?_
                  show Steps p.tables e below (T8.setTop (mkF m 164 #[.val (.int p0), .val (.int p1), .val (.int p2), .val (.int p3), .val (.long q4), .second, .val (.int stn), .val (.ref b5), .val (.int (p1 &&& (7 : Int32))), .unset, .unset, .unset, .unset, .unset, .unset, .unset] [(.int (255 : Int32)), (.int p2)])) _
                  refine XS.iand X8.here hx rfl (hb hby at_164) rfl ?_
                  show Steps p.tables e below (T8.setTop (mkF m 165 #[.val (.int p0), .val (.int p1), .val (.int p2), .val (.int p3), .val (.long q4), .second, .val (.int stn), .val (.ref b5), .val (.int (p1 &&& (7 : Int32))), .unset, .unset, .unset, .unset, .unset, .unset, .unset] [(.int (p2 &&& (255 : Int32)))])) _
                  refine XS.istore X8.here hx rfl (hb hby at_165) rfl (l' := #[.val (.int p0), .val (.int p1), .val (.int p2), .val (.int p3), .val (.long q4), .second, .val (.int stn), .val (.ref b5), .val (.int (p1 &&& (7 : Int32))), .unset, .unset, .unset, .val (.int (p2 &&& (255 : Int32))), .unset, .unset, .unset]) rfl ?_
                  show Steps p.tables e below (T8.setTop (mkF m 167 #[.val (.int p0), .val (.int p1), .val (.int p2), .val (.int p3), .val (.long q4), .second, .val (.int stn), .val (.ref b5), .val (.int (p1 &&& (7 : Int32))), .unset, .unset, .unset, .val (.int (p2 &&& (255 : Int32))), .unset, .unset, .unset] [])) _
                  refine XS.iload X8.here hx rfl (hb hby at_167) rfl ?_
                  show Steps p.tables e below (T8.setTop (mkF m 169 #[.val (.int p0), .val (.int p1), .val (.int p2), .val (.int p3), .val (.long q4), .second, .val (.int stn), .val (.ref b5), .val (.int (p1 &&& (7 : Int32))), .unset, .unset, .unset, .val (.int (p2 &&& (255 : Int32))), .unset, .unset, .unset] [(.int (p2 &&& (255 : Int32)))])) _
                  refine XS.i2dS X8.here hx rfl (hb hby at_169) rfl rfl ?_
                  show Steps p.tables e below (T8.setTop (mkF m 170 #[.val (.int p0), .val (.int p1), .val (.int p2), .val (.int p3), .val (.long q4), .second, .val (.int stn), .val (.ref b5), .val (.int (p1 &&& (7 : Int32))), .unset, .unset, .unset, .val (.int (p2 &&& (255 : Int32))), .unset, .unset, .unset] [(.double (FP.i2d (p2 &&& (255 : Int32))))])) _
                  refine X8.ldc2DoubleC hx hown (mvT hZ (hw _ (List.mem_of_getElem? (i := 28) rfl))) (g := (mkF m 170 #[.val (.int p0), .val (.int p1), .val (.int p2), .val (.int p3), .val (.long q4), .second, .val (.int stn), .val (.ref b5), .val (.int (p1 &&& (7 : Int32))), .unset, .unset, .unset, .val (.int (p2 &&& (255 : Int32))), .unset, .unset, .unset] [(.double (FP.i2d (p2 &&& (255 : Int32))))])) rfl (hb hby at_170) _ ?_
                  show Steps p.tables e below (T8.setTop (mkF m 173 #[.val (.int p0), .val (.int p1), .val (.int p2), .val (.int p3), .val (.long q4), .second, .val (.int stn), .val (.ref b5), .val (.int (p1 &&& (7 : Int32))), .unset, .unset, .unset, .val (.int (p2 &&& (255 : Int32))), .unset, .unset, .unset] [(.double (4652218415073722368 : UInt64)), (.double (FP.i2d (p2 &&& (255 : Int32))))])) _
                  refine XS.ddivS X8.here hx rfl (hb hby at_173) rfl (nn64 (own_k p2).1) rfl ?_
                  show Steps p.tables e below (T8.setTop (mkF m 174 #[.val (.int p0), .val (.int p1), .val (.int p2), .val (.int p3), .val (.long q4), .second, .val (.int stn), .val (.ref b5), .val (.int (p1 &&& (7 : Int32))), .unset, .unset, .unset, .val (.int (p2 &&& (255 : Int32))), .unset, .unset, .unset] [(.double (FP.ddiv (FP.i2d (p2 &&& (255 : Int32))) (4652218415073722368 : UInt64)))])) _
                  refine XS.dstore X8.here hx rfl (hb hby at_174) rfl (l' := #[.val (.int p0), .val (.int p1), .val (.int p2), .val (.int p3), .val (.long q4), .second, .val (.int stn), .val (.ref b5), .val (.int (p1 &&& (7 : Int32))), .val (.double (FP.ddiv (FP.i2d (p2 &&& (255 : Int32))) (4652218415073722368 : UInt64))), .second, .unset, .val (.int (p2 &&& (255 : Int32))), .unset, .unset, .unset]) rfl ?_
                  show Steps p.tables e below (T8.setTop (mkF m 176 #[.val (.int p0), .val (.int p1), .val (.int p2), .val (.int p3), .val (.long q4), .second, .val (.int stn), .val (.ref b5), .val (.int (p1 &&& (7 : Int32))), .val (.double (FP.ddiv (FP.i2d (p2 &&& (255 : Int32))) (4652218415073722368 : UInt64))), .second, .unset, .val (.int (p2 &&& (255 : Int32))), .unset, .unset, .unset] [])) _
                  refine XS.iload X8.here hx rfl (hb hby at_176) rfl ?_
                  exact k
                by_cases hc178_55 : (p2 &&& (255 : Int32)) = (0 : Int32)
                ·
                  have a56 : ∀ t, Steps p.tables e below (T8.setTop (mkF m 222 #[.val (.int p0), .val (.int p1), .val (.int p2), .val (.int p3), .val (.long q4), .second, .val (.int stn), .val (.ref b5), .val (.int (p1 &&& (7 : Int32))), .val (.double (FP.ddiv (FP.i2d (p2 &&& (255 : Int32))) (4652218415073722368 : UInt64))), .second, .val (.int (0 : Int32)), .val (.int (p2 &&& (255 : Int32))), .unset, .unset, .unset] [(.double (FP.ddiv (FP.i2d (p2 &&& (255 : Int32))) (4652218415073722368 : UInt64))), (.ref b5)])) t → Steps p.tables e below (s₁.setTop (entryFrame m #[(.int p0), (.int p1), (.int p2), (.int p3), (.long q4)] maxLocals)) t := by
                    intro t k
                    refine a54 t ?_
                    show Steps p.tables e below (T8.setTop (mkF m 178 #[.val (.int p0), .val (.int p1), .val (.int p2), .val (.int p3), .val (.long q4), .second, .val (.int stn), .val (.ref b5), .val (.int (p1 &&& (7 : Int32))), .val (.double (FP.ddiv (FP.i2d (p2 &&& (255 : Int32))) (4652218415073722368 : UInt64))), .second, .unset, .val (.int (p2 &&& (255 : Int32))), .unset, .unset, .unset] [(.int (p2 &&& (255 : Int32)))])) _
                    refine XS.ifYes X8.here hx rfl (pc0 := 178) (pc' := 185) rfl (hb hby at_178) rfl ((if0 _ _).trans (teq hc178_55).1) (by decide) (by decide) ?_
                    show Steps p.tables e below (T8.setTop (mkF m 185 #[.val (.int p0), .val (.int p1), .val (.int p2), .val (.int p3), .val (.long q4), .second, .val (.int stn), .val (.ref b5), .val (.int (p1 &&& (7 : Int32))), .val (.double (FP.ddiv (FP.i2d (p2 &&& (255 : Int32))) (4652218415073722368 : UInt64))), .second, .unset, .val (.int (p2 &&& (255 : Int32))), .unset, .unset, .unset] [])) _
                    refine XS.iconst X8.here hx rfl (hb hby at_185) ?_
                    show Steps p.tables e below (T8.setTop (mkF m 186 #[.val (.int p0), .val (.int p1), .val (.int p2), .val (.int p3), .val (.long q4), .second, .val (.int stn), .val (.ref b5), .val (.int (p1 &&& (7 : Int32))), .val (.double (FP.ddiv (FP.i2d (p2 &&& (255 : Int32))) (4652218415073722368 : UInt64))), .second, .unset, .val (.int (p2 &&& (255 : Int32))), .unset, .unset, .unset] [(.int (0 : Int32))])) _
                    refine XS.istore X8.here hx rfl (hb hby at_186) rfl (l' := #[.val (.int p0), .val (.int p1), .val (.int p2), .val (.int p3), .val (.long q4), .second, .val (.int stn), .val (.ref b5), .val (.int (p1 &&& (7 : Int32))), .val (.double (FP.ddiv (FP.i2d (p2 &&& (255 : Int32))) (4652218415073722368 : UInt64))), .second, .val (.int (0 : Int32)), .val (.int (p2 &&& (255 : Int32))), .unset, .unset, .unset]) rfl ?_
                    show Steps p.tables e below (T8.setTop (mkF m 188 #[.val (.int p0), .val (.int p1), .val (.int p2), .val (.int p3), .val (.long q4), .second, .val (.int stn), .val (.ref b5), .val (.int (p1 &&& (7 : Int32))), .val (.double (FP.ddiv (FP.i2d (p2 &&& (255 : Int32))) (4652218415073722368 : UInt64))), .second, .val (.int (0 : Int32)), .val (.int (p2 &&& (255 : Int32))), .unset, .unset, .unset] [])) _
                    refine XS.goto X8.here hx rfl (pc0 := 188) (pc' := 218) rfl (hb hby at_188) (by decide) (by decide) ?_
                    show Steps p.tables e below (T8.setTop (mkF m 218 #[.val (.int p0), .val (.int p1), .val (.int p2), .val (.int p3), .val (.long q4), .second, .val (.int stn), .val (.ref b5), .val (.int (p1 &&& (7 : Int32))), .val (.double (FP.ddiv (FP.i2d (p2 &&& (255 : Int32))) (4652218415073722368 : UInt64))), .second, .val (.int (0 : Int32)), .val (.int (p2 &&& (255 : Int32))), .unset, .unset, .unset] [])) _
                    refine XS.aload X8.here hx rfl (hb hby at_218) rfl rfl ?_
                    show Steps p.tables e below (T8.setTop (mkF m 220 #[.val (.int p0), .val (.int p1), .val (.int p2), .val (.int p3), .val (.long q4), .second, .val (.int stn), .val (.ref b5), .val (.int (p1 &&& (7 : Int32))), .val (.double (FP.ddiv (FP.i2d (p2 &&& (255 : Int32))) (4652218415073722368 : UInt64))), .second, .val (.int (0 : Int32)), .val (.int (p2 &&& (255 : Int32))), .unset, .unset, .unset] [(.ref b5)])) _
                    refine XS.dload X8.here hx rfl (hb hby at_220) rfl ?_
                    exact k
                  obtain ⟨cq57, kq57, q57a, q57b, q57c⟩ := isOf hZ rfl (A5.keep K8q)
                  obtain ⟨_, _, ⟨T57, L57, k57, n57⟩, -, X57, ⟨Lc57, hQ57, l57, y57, z57⟩, st57⟩ := X8.virtualBack hx (y := (⟨"com/example/placewright/placewright/scheme/Broadcast", "bandwidth", "(D)D"⟩ : MethodName)) (z := (⟨"com/example/placewright/placewright/scheme/Broadcast", "bandwidth", "(D)D"⟩ : MethodName)) hown (mvT hZ (hw _ (List.mem_of_getElem? (i := 22) rfl))) (mvT hZ (hw _ (List.mem_of_getElem? (i := 23) rfl))) (notFace_of_selects (args := #[]) (mvT hZ (hw _ (List.mem_of_getElem? (i := 25) rfl)))) (mvT hZ (hw _ (List.mem_of_getElem? (i := 25) rfl))) (mvT hZ (hw _ (List.mem_of_getElem? (i := 24) rfl))) (by decide) (backOf (W := 0) (rmB l Z a0 hw [] b5 (FP.ddiv (FP.i2d (p2 &&& (255 : Int32))) (4652218415073722368 : UInt64)) stn T8.heap n0 (Nat.le_trans (Nat.le_trans Z0 E5.1) K8q.1) G8_0) hZ (hw _ (List.mem_of_getElem? (i := 26) rfl)) (hw _ (List.mem_of_getElem? (i := 7) rfl)) (by decide) (by decide)) q57a q57c (g := (mkF m 222 #[.val (.int p0), .val (.int p1), .val (.int p2), .val (.int p3), .val (.long q4), .second, .val (.int stn), .val (.ref b5), .val (.int (p1 &&& (7 : Int32))), .val (.double (FP.ddiv (FP.i2d (p2 &&& (255 : Int32))) (4652218415073722368 : UInt64))), .second, .val (.int (0 : Int32)), .val (.int (p2 &&& (255 : Int32))), .unset, .unset, .unset] [(.double (FP.ddiv (FP.i2d (p2 &&& (255 : Int32))) (4652218415073722368 : UInt64))), (.ref b5)])) rfl (by rw [hml]; rfl) (Steps.refl _) (argsL := [(.double (FP.ddiv (FP.i2d (p2 &&& (255 : Int32))) (4652218415073722368 : UInt64)))]) (rest := []) (lenOf own_pd3 rfl) rfl (by show 2 * 0 + _ ≤ _; exact Nat.le_of_eq rfl) (hb hby at_222) (fun _ _ => ⟨rfl, rfl, (by decide : 1 + 0 ≤ _), (by decide : 1 + 0 ≤ _)⟩)
                  dsimp only [Pt.U, Pt.locs, Pt.cells, Pt.slots] at X57 l57 y57 z57 st57 hQ57
                  subst l57 y57 z57
                  obtain ⟨rfl, N57q, e57q⟩ := hQ57
                  have N57 := Fr.app N8 N57q
                  have a58 : ∀ t, Steps p.tables e below (T57.setTop (mkF m 225 #[.val (.int p0), .val (.int p1), .val (.int p2), .val (.int p3), .val (.long q4), .second, .val (.int stn), .val (.ref b5), .val (.int (p1 &&& (7 : Int32))), .val (.double (FP.ddiv (FP.i2d (p2 &&& (255 : Int32))) (4652218415073722368 : UInt64))), .second, .val (.int (0 : Int32)), .val (.int (p2 &&& (255 : Int32))), .unset, .unset, .unset] [(.double (if FP.dcmp (FP.ddiv (FP.i2d (p2 &&& (255 : Int32))) (4652218415073722368 : UInt64)) 0 = some .gt then FP.i2d stn else 0))])) t → Steps p.tables e below (s₁.setTop (entryFrame m #[(.int p0), (.int p1), (.int p2), (.int p3), (.long q4)] maxLocals)) t := fun t k => a56 t (st57.trans k)
                  obtain ⟨r, h_r⟩ : ∃ z : UInt64, z = (if FP.dcmp (FP.ddiv (FP.i2d (p2 &&& (255 : Int32))) (4652218415073722368 : UInt64)) 0 = some .gt then FP.i2d stn else 0) := ⟨_, rfl⟩
                  rw [← h_r] at a58
                  have a59 : ∀ t, Steps p.tables e below (T57.setTop (mkF m 254 #[.val (.int p0), .val (.int p1), .val (.int p2), .val (.int p3), .val (.long q4), .second, .val (.int stn), .val (.ref b5), .val (.int (p1 &&& (7 : Int32))), .val (.double (FP.ddiv (FP.i2d (p2 &&& (255 : Int32))) (4652218415073722368 : UInt64))), .second, .val (.int (0 : Int32)), .val (.double r), .second, .val (.double (0 : UInt64)), .second] [(.int (1 : Int32))])) t → Steps p.tables e below (s₁.setTop (entryFrame m #[(.int p0), (.int p1), (.int p2), (.int p3), (.long q4)] maxLocals)) t := by
                    intro t k
                    refine a58 t ?_
                    show Steps p.tables e below (T57.setTop (mkF m 225 #[.val (.int p0), .val (.int p1), .val (.int p2), .val (.int p3), .val (.long q4), .second, .val (.int stn), .val (.ref b5), .val (.int (p1 &&& (7 : Int32))), .val (.double (FP.ddiv (FP.i2d (p2 &&& (255 : Int32))) (4652218415073722368 : UInt64))), .second, .val (.int (0 : Int32)), .val (.int (p2 &&& (255 : Int32))), .unset, .unset, .unset] [(.double r)])) _
                    refine XS.dstore X57.here hx rfl (hb hby at_225) rfl (l' := #[.val (.int p0), .val (.int p1), .val (.int p2), .val (.int p3), .val (.long q4), .second, .val (.int stn), .val (.ref b5), .val (.int (p1 &&& (7 : Int32))), .val (.double (FP.ddiv (FP.i2d (p2 &&& (255 : Int32))) (4652218415073722368 : UInt64))), .second, .val (.int (0 : Int32)), .val (.double r), .second, .unset, .unset]) rfl ?_
                    show Steps p.tables e below (T57.setTop (mkF m 227 #[.val (.int p0), .val (.int p1), .val (.int p2), .val (.int p3), .val (.long q4), .second, .val (.int stn), .val (.ref b5), .val (.int (p1 &&& (7 : Int32))), .val (.double (FP.ddiv (FP.i2d (p2 &&& (255 : Int32))) (4652218415073722368 : UInt64))), .second, .val (.int (0 : Int32)), .val (.double r), .second, .unset, .unset] [])) _
                    refine XS.iload X57.here hx rfl (hb hby at_227) rfl ?_
                    show Steps p.tables e below (T57.setTop (mkF m 229 #[.val (.int p0), .val (.int p1), .val (.int p2), .val (.int p3), .val (.long q4), .second, .val (.int stn), .val (.ref b5), .val (.int (p1 &&& (7 : Int32))), .val (.double (FP.ddiv (FP.i2d (p2 &&& (255 : Int32))) (4652218415073722368 : UInt64))), .second, .val (.int (0 : Int32)), .val (.double r), .second, .unset, .unset] [(.int (0 : Int32))])) _
                    refine XS.ifYes X57.here hx rfl (pc0 := 229) (pc' := 238) rfl (hb hby at_229) rfl ((if0 _ _).trans (teq rfl).1) (by decide) (by decide) ?_
                    show Steps p.tables e below (T57.setTop (mkF m 238 #[.val (.int p0), .val (.int p1), .val (.int p2), .val (.int p3), .val (.long q4), .second, .val (.int stn), .val (.ref b5), .val (.int (p1 &&& (7 : Int32))), .val (.double (FP.ddiv (FP.i2d (p2 &&& (255 : Int32))) (4652218415073722368 : UInt64))), .second, .val (.int (0 : Int32)), .val (.double r), .second, .unset, .unset] [])) _
                    refine XS.dconst0 X57.here hx rfl (hb hby at_238) (v := 0) rfl ?_
                    show Steps p.tables e below (T57.setTop (mkF m 239 #[.val (.int p0), .val (.int p1), .val (.int p2), .val (.int p3), .val (.long q4), .second, .val (.int stn), .val (.ref b5), .val (.int (p1 &&& (7 : Int32))), .val (.double (FP.ddiv (FP.i2d (p2 &&& (255 : Int32))) (4652218415073722368 : UInt64))), .second, .val (.int (0 : Int32)), .val (.double r), .second, .unset, .unset] [(.double (0 : UInt64))])) _
                    refine XS.dstore X57.here hx rfl (hb hby at_239) rfl (l' := #[.val (.int p0), .val (.int p1), .val (.int p2), .val (.int p3), .val (.long q4), .second, .val (.int stn), .val (.ref b5), .val (.int (p1 &&& (7 : Int32))), .val (.double (FP.ddiv (FP.i2d (p2 &&& (255 : Int32))) (4652218415073722368 : UInt64))), .second, .val (.int (0 : Int32)), .val (.double r), .second, .val (.double (0 : UInt64)), .second]) rfl ?_
                    show Steps p.tables e below (T57.setTop (mkF m 241 #[.val (.int p0), .val (.int p1), .val (.int p2), .val (.int p3), .val (.long q4), .second, .val (.int stn), .val (.ref b5), .val (.int (p1 &&& (7 : Int32))), .val (.double (FP.ddiv (FP.i2d (p2 &&& (255 : Int32))) (4652218415073722368 : UInt64))), .second, .val (.int (0 : Int32)), .val (.double r), .second, .val (.double (0 : UInt64)), .second] [])) _
                    refine XS.dload X57.here hx rfl (hb hby at_241) rfl ?_
                    show Steps p.tables e below (T57.setTop (mkF m 243 #[.val (.int p0), .val (.int p1), .val (.int p2), .val (.int p3), .val (.long q4), .second, .val (.int stn), .val (.ref b5), .val (.int (p1 &&& (7 : Int32))), .val (.double (FP.ddiv (FP.i2d (p2 &&& (255 : Int32))) (4652218415073722368 : UInt64))), .second, .val (.int (0 : Int32)), .val (.double r), .second, .val (.double (0 : UInt64)), .second] [(.double r)])) _
                    refine XS.dload X57.here hx rfl (hb hby at_243) rfl ?_
                    show Steps p.tables e below (T57.setTop (mkF m 245 #[.val (.int p0), .val (.int p1), .val (.int p2), .val (.int p3), .val (.long q4), .second, .val (.int stn), .val (.ref b5), .val (.int (p1 &&& (7 : Int32))), .val (.double (FP.ddiv (FP.i2d (p2 &&& (255 : Int32))) (4652218415073722368 : UInt64))), .second, .val (.int (0 : Int32)), .val (.double r), .second, .val (.double (0 : UInt64)), .second] [(.double (0 : UInt64)), (.double r)])) _
                    refine XS.dcmpS X57.here hx rfl (hb hby at_245) rfl rfl ?_
                    show Steps p.tables e below (T57.setTop (mkF m 246 #[.val (.int p0), .val (.int p1), .val (.int p2), .val (.int p3), .val (.long q4), .second, .val (.int stn), .val (.ref b5), .val (.int (p1 &&& (7 : Int32))), .val (.double (FP.ddiv (FP.i2d (p2 &&& (255 : Int32))) (4652218415073722368 : UInt64))), .second, .val (.int (0 : Int32)), .val (.double r), .second, .val (.double (0 : UInt64)), .second] [(.int (cmpValue (FP.dcmp r (0 : UInt64)) .l))])) _
                    refine XS.ifNo X57.here hx rfl (hb hby at_246) rfl ((if0 _ _).trans (teq (own_no h_r (own_eq0 (own_zk hc178_55)))).2) ?_
                    show Steps p.tables e below (T57.setTop (mkF m 249 #[.val (.int p0), .val (.int p1), .val (.int p2), .val (.int p3), .val (.long q4), .second, .val (.int stn), .val (.ref b5), .val (.int (p1 &&& (7 : Int32))), .val (.double (FP.ddiv (FP.i2d (p2 &&& (255 : Int32))) (4652218415073722368 : UInt64))), .second, .val (.int (0 : Int32)), .val (.double r), .second, .val (.double (0 : UInt64)), .second] [])) _
                    refine XS.iconst X57.here hx rfl (hb hby at_249) ?_
                    show Steps p.tables e below (T57.setTop (mkF m 250 #[.val (.int p0), .val (.int p1), .val (.int p2), .val (.int p3), .val (.long q4), .second, .val (.int stn), .val (.ref b5), .val (.int (p1 &&& (7 : Int32))), .val (.double (FP.ddiv (FP.i2d (p2 &&& (255 : Int32))) (4652218415073722368 : UInt64))), .second, .val (.int (0 : Int32)), .val (.double r), .second, .val (.double (0 : UInt64)), .second] [(.int (1 : Int32))])) _
                    refine XS.goto X57.here hx rfl (pc0 := 250) (pc' := 254) rfl (hb hby at_250) (by decide) (by decide) ?_
                    exact k
                  obtain ⟨fs, hr, hrun, hended, hW, hsame⟩ := X57.leave (v := some (.int (1 : Int32))) (fun h => by rw [Bd.returns] at h; cases h)
                  refine ⟨_, _, a59 _ ?_, hrun, hended, _, _, rfl, ?_, ⟨_, rfl⟩, hW, hsame.mono (by decide) (by decide)⟩
                  · show Steps p.tables e below (T57.setTop (mkF m 254 #[.val (.int p0), .val (.int p1), .val (.int p2), .val (.int p3), .val (.long q4), .second, .val (.int stn), .val (.ref b5), .val (.int (p1 &&& (7 : Int32))), .val (.double (FP.ddiv (FP.i2d (p2 &&& (255 : Int32))) (4652218415073722368 : UInt64))), .second, .val (.int (0 : Int32)), .val (.double r), .second, .val (.double (0 : UInt64)), .second] [(.int (1 : Int32))])) _
                    exact retN X57 hx (t := .boolean) Bd.returns (by simp) (hb hby at_254) hr
                  · show Q0 Z p0 p1 p2 p3 q4 h0 n0 _ T57.heap _
                    rw [e57q]
                    exact ⟨rfl, N57⟩
                ·
                  have a60 : ∀ t, Steps p.tables e below (T8.setTop (mkF m 222 #[.val (.int p0), .val (.int p1), .val (.int p2), .val (.int p3), .val (.long q4), .second, .val (.int stn), .val (.ref b5), .val (.int (p1 &&& (7 : Int32))), .val (.double (FP.ddiv (FP.i2d (p2 &&& (255 : Int32))) (4652218415073722368 : UInt64))), .second, .val (.int (1 : Int32)), .val (.int (p2 &&& (255 : Int32))), .unset, .unset, .unset] [(.double (FP.ddiv (FP.i2d (p2 &&& (255 : Int32))) (4652218415073722368 : UInt64))), (.ref b5)])) t → Steps p.tables e below (s₁.setTop (entryFrame m #[(.int p0), (.int p1), (.int p2), (.int p3), (.long q4)] maxLocals)) t := by
                    intro t k
                    refine a54 t ?_
                    show Steps p.tables e below (T8.setTop (mkF m 178 #[.val (.int p0), .val (.int p1), .val (.int p2), .val (.int p3), .val (.long q4), .second, .val (.int stn), .val (.ref b5), .val (.int (p1 &&& (7 : Int32))), .val (.double (FP.ddiv (FP.i2d (p2 &&& (255 : Int32))) (4652218415073722368 : UInt64))), .second, .unset, .val (.int (p2 &&& (255 : Int32))), .unset, .unset, .unset] [(.int (p2 &&& (255 : Int32)))])) _
                    refine XS.ifNo X8.here hx rfl (hb hby at_178) rfl ((if0 _ _).trans (feq hc178_55).1) ?_
                    show Steps p.tables e below (T8.setTop (mkF m 181 #[.val (.int p0), .val (.int p1), .val (.int p2), .val (.int p3), .val (.long q4), .second, .val (.int stn), .val (.ref b5), .val (.int (p1 &&& (7 : Int32))), .val (.double (FP.ddiv (FP.i2d (p2 &&& (255 : Int32))) (4652218415073722368 : UInt64))), .second, .unset, .val (.int (p2 &&& (255 : Int32))), .unset, .unset, .unset] [])) _
                    refine XS.iconst X8.here hx rfl (hb hby at_181) ?_
                    show Steps p.tables e below (T8.setTop (mkF m 182 #[.val (.int p0), .val (.int p1), .val (.int p2), .val (.int p3), .val (.long q4), .second, .val (.int stn), .val (.ref b5), .val (.int (p1 &&& (7 : Int32))), .val (.double (FP.ddiv (FP.i2d (p2 &&& (255 : Int32))) (4652218415073722368 : UInt64))), .second, .unset, .val (.int (p2 &&& (255 : Int32))), .unset, .unset, .unset] [(.int (1 : Int32))])) _
                    refine XS.goto X8.here hx rfl (pc0 := 182) (pc' := 186) rfl (hb hby at_182) (by decide) (by decide) ?_
                    show Steps p.tables e below (T8.setTop (mkF m 186 #[.val (.int p0), .val (.int p1), .val (.int p2), .val (.int p3), .val (.long q4), .second, .val (.int stn), .val (.ref b5), .val (.int (p1 &&& (7 : Int32))), .val (.double (FP.ddiv (FP.i2d (p2 &&& (255 : Int32))) (4652218415073722368 : UInt64))), .second, .unset, .val (.int (p2 &&& (255 : Int32))), .unset, .unset, .unset] [(.int (1 : Int32))])) _
                    refine XS.istore X8.here hx rfl (hb hby at_186) rfl (l' := #[.val (.int p0), .val (.int p1), .val (.int p2), .val (.int p3), .val (.long q4), .second, .val (.int stn), .val (.ref b5), .val (.int (p1 &&& (7 : Int32))), .val (.double (FP.ddiv (FP.i2d (p2 &&& (255 : Int32))) (4652218415073722368 : UInt64))), .second, .val (.int (1 : Int32)), .val (.int (p2 &&& (255 : Int32))), .unset, .unset, .unset]) rfl ?_
                    show Steps p.tables e below (T8.setTop (mkF m 188 #[.val (.int p0), .val (.int p1), .val (.int p2), .val (.int p3), .val (.long q4), .second, .val (.int stn), .val (.ref b5), .val (.int (p1 &&& (7 : Int32))), .val (.double (FP.ddiv (FP.i2d (p2 &&& (255 : Int32))) (4652218415073722368 : UInt64))), .second, .val (.int (1 : Int32)), .val (.int (p2 &&& (255 : Int32))), .unset, .unset, .unset] [])) _
                    refine XS.goto X8.here hx rfl (pc0 := 188) (pc' := 218) rfl (hb hby at_188) (by decide) (by decide) ?_
                    show Steps p.tables e below (T8.setTop (mkF m 218 #[.val (.int p0), .val (.int p1), .val (.int p2), .val (.int p3), .val (.long q4), .second, .val (.int stn), .val (.ref b5), .val (.int (p1 &&& (7 : Int32))), .val (.double (FP.ddiv (FP.i2d (p2 &&& (255 : Int32))) (4652218415073722368 : UInt64))), .second, .val (.int (1 : Int32)), .val (.int (p2 &&& (255 : Int32))), .unset, .unset, .unset] [])) _
                    refine XS.aload X8.here hx rfl (hb hby at_218) rfl rfl ?_
                    show Steps p.tables e below (T8.setTop (mkF m 220 #[.val (.int p0), .val (.int p1), .val (.int p2), .val (.int p3), .val (.long q4), .second, .val (.int stn), .val (.ref b5), .val (.int (p1 &&& (7 : Int32))), .val (.double (FP.ddiv (FP.i2d (p2 &&& (255 : Int32))) (4652218415073722368 : UInt64))), .second, .val (.int (1 : Int32)), .val (.int (p2 &&& (255 : Int32))), .unset, .unset, .unset] [(.ref b5)])) _
                    refine XS.dload X8.here hx rfl (hb hby at_220) rfl ?_
                    exact k
                  obtain ⟨cq61, kq61, q61a, q61b, q61c⟩ := isOf hZ rfl (A5.keep K8q)
                  obtain ⟨_, _, ⟨T61, L61, k61, n61⟩, -, X61, ⟨Lc61, hQ61, l61, y61, z61⟩, st61⟩ := X8.virtualBack hx (y := (⟨"com/example/placewright/placewright/scheme/Broadcast", "bandwidth", "(D)D"⟩ : MethodName)) (z := (⟨"com/example/placewright/placewright/scheme/Broadcast", "bandwidth", "(D)D"⟩ : MethodName)) hown (mvT hZ (hw _ (List.mem_of_getElem? (i := 22) rfl))) (mvT hZ (hw _ (List.mem_of_getElem? (i := 23) rfl))) (notFace_of_selects (args := #[]) (mvT hZ (hw _ (List.mem_of_getElem? (i := 25) rfl)))) (mvT hZ (hw _ (List.mem_of_getElem? (i := 25) rfl))) (mvT hZ (hw _ (List.mem_of_getElem? (i := 24) rfl))) (by decide) (backOf (W := 0) (rmB l Z a0 hw [] b5 (FP.ddiv (FP.i2d (p2 &&& (255 : Int32))) (4652218415073722368 : UInt64)) stn T8.heap n0 (Nat.le_trans (Nat.le_trans Z0 E5.1) K8q.1) G8_0) hZ (hw _ (List.mem_of_getElem? (i := 26) rfl)) (hw _ (List.mem_of_getElem? (i := 7) rfl)) (by decide) (by decide)) q61a q61c (g := (mkF m 222 #[.val (.int p0), .val (.int p1), .val (.int p2), .val (.int p3), .val (.long q4), .second, .val (.int stn), .val (.ref b5), .val (.int (p1 &&& (7 : Int32))), .val (.double (FP.ddiv (FP.i2d (p2 &&& (255 : Int32))) (4652218415073722368 : UInt64))), .second, .val (.int (1 : Int32)), .val (.int (p2 &&& (255 : Int32))), .unset, .unset, .unset] [(.double (FP.ddiv (FP.i2d (p2 &&& (255 : Int32))) (4652218415073722368 : UInt64))), (.ref b5)])) rfl (by rw [hml]; rfl) (Steps.refl _) (argsL := [(.double (FP.ddiv (FP.i2d (p2 &&& (255 : Int32))) (4652218415073722368 : UInt64)))]) (rest := []) (lenOf own_pd3 rfl) rfl (by show 2 * 0 + _ ≤ _; exact Nat.le_of_eq rfl) (hb hby at_222) (fun _ _ => ⟨rfl, rfl, (by decide : 1 + 0 ≤ _), (by decide : 1 + 0 ≤ _)⟩)
                  dsimp only [Pt.U, Pt.locs, Pt.cells, Pt.slots] at X61 l61 y61 z61 st61 hQ61
                  subst l61 y61 z61
                  obtain ⟨rfl, N61q, e61q⟩ := hQ61
                  have N61 := Fr.app N8 N61q
                  have a62 : ∀ t, Steps p.tables e below (T61.setTop (mkF m 225 #[.val (.int p0), .val (.int p1), .val (.int p2), .val (.int p3), .val (.long q4), .second, .val (.int stn), .val (.ref b5), .val (.int (p1 &&& (7 : Int32))), .val (.double (FP.ddiv (FP.i2d (p2 &&& (255 : Int32))) (4652218415073722368 : UInt64))), .second, .val (.int (1 : Int32)), .val (.int (p2 &&& (255 : Int32))), .unset, .unset, .unset] [(.double (if FP.dcmp (FP.ddiv (FP.i2d (p2 &&& (255 : Int32))) (4652218415073722368 : UInt64)) 0 = some .gt then FP.i2d stn else 0))])) t → Steps p.tables e below (s₁.setTop (entryFrame m #[(.int p0), (.int p1), (.int p2), (.int p3), (.long q4)] maxLocals)) t := fun t k => a60 t (st61.trans k)
                  obtain ⟨r, h_r⟩ : ∃ z : UInt64, z = (if FP.dcmp (FP.ddiv (FP.i2d (p2 &&& (255 : Int32))) (4652218415073722368 : UInt64)) 0 = some .gt then FP.i2d stn else 0) := ⟨_, rfl⟩
                  rw [← h_r] at a62
                  have a63 : ∀ t, Steps p.tables e below (T61.setTop (mkF m 254 #[.val (.int p0), .val (.int p1), .val (.int p2), .val (.int p3), .val (.long q4), .second, .val (.int stn), .val (.ref b5), .val (.int (p1 &&& (7 : Int32))), .val (.double (FP.ddiv (FP.i2d (p2 &&& (255 : Int32))) (4652218415073722368 : UInt64))), .second, .val (.int (1 : Int32)), .val (.double r), .second, .val (.double (FP.i2d stn)), .second] [(.int (1 : Int32))])) t → Steps p.tables e below (s₁.setTop (entryFrame m #[(.int p0), (.int p1), (.int p2), (.int p3), (.long q4)] maxLocals)) t := by
                    intro t k
                    refine a62 t ?_
                    show Steps p.tables e below (T61.setTop (mkF m 225 #[.val (.int p0), .val (.int p1), .val (.int p2), .val (.int p3), .val (.long q4), .second, .val (.int stn), .val (.ref b5), .val (.int (p1 &&& (7 : Int32))), .val (.double (FP.ddiv (FP.i2d (p2 &&& (255 : Int32))) (4652218415073722368 : UInt64))), .second, .val (.int (1 : Int32)), .val (.int (p2 &&& (255 : Int32))), .unset, .unset, .unset] [(.double r)])) _
                    refine XS.dstore X61.here hx rfl (hb hby at_225) rfl (l' := #[.val (.int p0), .val (.int p1), .val (.int p2), .val (.int p3), .val (.long q4), .second, .val (.int stn), .val (.ref b5), .val (.int (p1 &&& (7 : Int32))), .val (.double (FP.ddiv (FP.i2d (p2 &&& (255 : Int32))) (4652218415073722368 : UInt64))), .second, .val (.int (1 : Int32)), .val (.double r), .second, .unset, .unset]) rfl ?_
                    show Steps p.tables e below (T61.setTop (mkF m 227 #[.val (.int p0), .val (.int p1), .val (.int p2), .val (.int p3), .val (.long q4), .second, .val (.int stn), .val (.ref b5), .val (.int (p1 &&& (7 : Int32))), .val (.double (FP.ddiv (FP.i2d (p2 &&& (255 : Int32))) (4652218415073722368 : UInt64))), .second, .val (.int (1 : Int32)), .val (.double r), .second, .unset, .unset] [])) _
                    refine XS.iload X61.here hx rfl (hb hby at_227) rfl ?_
                    show Steps p.tables e below (T61.setTop (mkF m 229 #[.val (.int p0), .val (.int p1), .val (.int p2), .val (.int p3), .val (.long q4), .second, .val (.int stn), .val (.ref b5), .val (.int (p1 &&& (7 : Int32))), .val (.double (FP.ddiv (FP.i2d (p2 &&& (255 : Int32))) (4652218415073722368 : UInt64))), .second, .val (.int (1 : Int32)), .val (.double r), .second, .unset, .unset] [(.int (1 : Int32))])) _
                    refine XS.ifNo X61.here hx rfl (hb hby at_229) rfl ((if0 _ _).trans (feq (by decide)).1) ?_
                    show Steps p.tables e below (T61.setTop (mkF m 232 #[.val (.int p0), .val (.int p1), .val (.int p2), .val (.int p3), .val (.long q4), .second, .val (.int stn), .val (.ref b5), .val (.int (p1 &&& (7 : Int32))), .val (.double (FP.ddiv (FP.i2d (p2 &&& (255 : Int32))) (4652218415073722368 : UInt64))), .second, .val (.int (1 : Int32)), .val (.double r), .second, .unset, .unset] [])) _
                    refine XS.iload X61.here hx rfl (hb hby at_232) rfl ?_
                    show Steps p.tables e below (T61.setTop (mkF m 234 #[.val (.int p0), .val (.int p1), .val (.int p2), .val (.int p3), .val (.long q4), .second, .val (.int stn), .val (.ref b5), .val (.int (p1 &&& (7 : Int32))), .val (.double (FP.ddiv (FP.i2d (p2 &&& (255 : Int32))) (4652218415073722368 : UInt64))), .second, .val (.int (1 : Int32)), .val (.double r), .second, .unset, .unset] [(.int stn)])) _
                    refine XS.i2dS X61.here hx rfl (hb hby at_234) rfl rfl ?_
                    show Steps p.tables e below (T61.setTop (mkF m 235 #[.val (.int p0), .val (.int p1), .val (.int p2), .val (.int p3), .val (.long q4), .second, .val (.int stn), .val (.ref b5), .val (.int (p1 &&& (7 : Int32))), .val (.double (FP.ddiv (FP.i2d (p2 &&& (255 : Int32))) (4652218415073722368 : UInt64))), .second, .val (.int (1 : Int32)), .val (.double r), .second, .unset, .unset] [(.double (FP.i2d stn))])) _
                    refine XS.goto X61.here hx rfl (pc0 := 235) (pc' := 239) rfl (hb hby at_235) (by decide) (by decide) ?_
                    show Steps p.tables e below (T61.setTop (mkF m 239 #[.val (.int p0), .val (.int p1), .val (.int p2), .val (.int p3), .val (.long q4), .second, .val (.int stn), .val (.ref b5), .val (.int (p1 &&& (7 : Int32))), .val (.double (FP.ddiv (FP.i2d (p2 &&& (255 : Int32))) (4652218415073722368 : UInt64))), .second, .val (.int (1 : Int32)), .val (.double r), .second, .unset, .unset] [(.double (FP.i2d stn))])) _
                    refine XS.dstore X61.here hx rfl (hb hby at_239) rfl (l' := #[.val (.int p0), .val (.int p1), .val (.int p2), .val (.int p3), .val (.long q4), .second, .val (.int stn), .val (.ref b5), .val (.int (p1 &&& (7 : Int32))), .val (.double (FP.ddiv (FP.i2d (p2 &&& (255 : Int32))) (4652218415073722368 : UInt64))), .second, .val (.int (1 : Int32)), .val (.double r), .second, .val (.double (FP.i2d stn)), .second]) rfl ?_
                    show Steps p.tables e below (T61.setTop (mkF m 241 #[.val (.int p0), .val (.int p1), .val (.int p2), .val (.int p3), .val (.long q4), .second, .val (.int stn), .val (.ref b5), .val (.int (p1 &&& (7 : Int32))), .val (.double (FP.ddiv (FP.i2d (p2 &&& (255 : Int32))) (4652218415073722368 : UInt64))), .second, .val (.int (1 : Int32)), .val (.double r), .second, .val (.double (FP.i2d stn)), .second] [])) _
                    refine XS.dload X61.here hx rfl (hb hby at_241) rfl ?_
                    show Steps p.tables e below (T61.setTop (mkF m 243 #[.val (.int p0), .val (.int p1), .val (.int p2), .val (.int p3), .val (.long q4), .second, .val (.int stn), .val (.ref b5), .val (.int (p1 &&& (7 : Int32))), .val (.double (FP.ddiv (FP.i2d (p2 &&& (255 : Int32))) (4652218415073722368 : UInt64))), .second, .val (.int (1 : Int32)), .val (.double r), .second, .val (.double (FP.i2d stn)), .second] [(.double r)])) _
                    refine XS.dload X61.here hx rfl (hb hby at_243) rfl ?_
                    show Steps p.tables e below (T61.setTop (mkF m 245 #[.val (.int p0), .val (.int p1), .val (.int p2), .val (.int p3), .val (.long q4), .second, .val (.int stn), .val (.ref b5), .val (.int (p1 &&& (7 : Int32))), .val (.double (FP.ddiv (FP.i2d (p2 &&& (255 : Int32))) (4652218415073722368 : UInt64))), .second, .val (.int (1 : Int32)), .val (.double r), .second, .val (.double (FP.i2d stn)), .second] [(.double (FP.i2d stn)), (.double r)])) _
                    refine XS.dcmpS X61.here hx rfl (hb hby at_245) rfl rfl ?_
                    show Steps p.tables e below (T61.setTop (mkF m 246 #[.val (.int p0), .val (.int p1), .val (.int p2), .val (.int p3), .val (.long q4), .second, .val (.int stn), .val (.ref b5), .val (.int (p1 &&& (7 : Int32))), .val (.double (FP.ddiv (FP.i2d (p2 &&& (255 : Int32))) (4652218415073722368 : UInt64))), .second, .val (.int (1 : Int32)), .val (.double r), .second, .val (.double (FP.i2d stn)), .second] [(.int (cmpValue (FP.dcmp r (FP.i2d stn)) .l))])) _
                    refine XS.ifNo X61.here hx rfl (hb hby at_246) rfl ((if0 _ _).trans (teq (own_yes h_r (own_gt0 (own_k p2) (own_k_pos hc178_55)))).2) ?_
                    show Steps p.tables e below (T61.setTop (mkF m 249 #[.val (.int p0), .val (.int p1), .val (.int p2), .val (.int p3), .val (.long q4), .second, .val (.int stn), .val (.ref b5), .val (.int (p1 &&& (7 : Int32))), .val (.double (FP.ddiv (FP.i2d (p2 &&& (255 : Int32))) (4652218415073722368 : UInt64))), .second, .val (.int (1 : Int32)), .val (.double r), .second, .val (.double (FP.i2d stn)), .second] [])) _
                    refine XS.iconst X61.here hx rfl (hb hby at_249) ?_
                    show Steps p.tables e below (T61.setTop (mkF m 250 #[.val (.int p0), .val (.int p1), .val (.int p2), .val (.int p3), .val (.long q4), .second, .val (.int stn), .val (.ref b5), .val (.int (p1 &&& (7 : Int32))), .val (.double (FP.ddiv (FP.i2d (p2 &&& (255 : Int32))) (4652218415073722368 : UInt64))), .second, .val (.int (1 : Int32)), .val (.double r), .second, .val (.double (FP.i2d stn)), .second] [(.int (1 : Int32))])) _
                    refine XS.goto X61.here hx rfl (pc0 := 250) (pc' := 254) rfl (hb hby at_250) (by decide) (by decide) ?_
                    exact k
                  obtain ⟨fs, hr, hrun, hended, hW, hsame⟩ := X61.leave (v := some (.int (1 : Int32))) (fun h => by rw [Bd.returns] at h; cases h)
                  refine ⟨_, _, a63 _ ?_, hrun, hended, _, _, rfl, ?_, ⟨_, rfl⟩, hW, hsame.mono (by decide) (by decide)⟩
                  · show Steps p.tables e below (T61.setTop (mkF m 254 #[.val (.int p0), .val (.int p1), .val (.int p2), .val (.int p3), .val (.long q4), .second, .val (.int stn), .val (.ref b5), .val (.int (p1 &&& (7 : Int32))), .val (.double (FP.ddiv (FP.i2d (p2 &&& (255 : Int32))) (4652218415073722368 : UInt64))), .second, .val (.int (1 : Int32)), .val (.double r), .second, .val (.double (FP.i2d stn)), .second] [(.int (1 : Int32))])) _
                    exact retN X61 hx (t := .boolean) Bd.returns (by simp) (hb hby at_254) hr
                  · show Q0 Z p0 p1 p2 p3 q4 h0 n0 _ T61.heap _
                    rw [e61q]
                    exact ⟨rfl, N61⟩
              ·
                have a64 : ∀ t, Steps p.tables e below (T8.setTop (mkF m 208 #[.val (.int p0), .val (.int p1), .val (.int p2), .val (.int p3), .val (.long q4), .second, .val (.int stn), .val (.ref b5), .val (.int (p1 &&& (7 : Int32))), .val (.double (FP.l2d (q4 &&& (9223372036854775807 : Int64)))), .second, .unset, .val (.long (q4 &&& (9223372036854775807 : Int64))), .second, .unset, .unset] [(.int (lcmpW (q4 &&& (9223372036854775807 : Int64)) (0 : Int64)))])) t → Steps p.tables e below (s₁.setTop (entryFrame m #[(.int p0), (.int p1), (.int p2), (.int p3), (.long q4)] maxLocals)) t := by
                  intro t k
                  refine a52 t ?_
                  show Steps p.tables e below (T8.setTop (mkF m 157 #[.val (.int p0), .val (.int p1), .val (.int p2), .val (.int p3), .val (.long q4), .second, .val (.int stn), .val (.ref b5), .val (.int (p1 &&& (7 : Int32))), .unset, .unset, .unset, .unset, .unset, .unset, .unset] [(.int (6 : Int32)), (.int (p1 &&& (7 : Int32)))])) _
                  refine XS.icmpYes X8.here hx rfl (pc0 := 157) (pc' := 191) rfl (hb hby at_157) rfl (feq hc157_53).2 (by decide) (by decide) ?_
                  show Steps p.tables e below (T8.setTop (mkF m 191 #[.val (.int p0), .val (.int p1), .val (.int p2), .val (.int p3), .val (.long q4), .second, .val (.int stn), .val (.ref b5), .val (.int (p1 &&& (7 : Int32))), .unset, .unset, .unset, .unset, .unset, .unset, .unset] [])) _
                  refine XS.lload X8.here hx rfl (hb hby at_191) rfl ?_
                  show Steps p.tables e below (T8.setTop (mkF m 193 #[.val (.int p0), .val (.int p1), .val (.int p2), .val (.int p3), .val (.long q4), .second, .val (.int stn), .val (.ref b5), .val (.int (p1 &&& (7 : Int32))), .unset, .unset, .unset, .unset, .unset, .unset, .unset] [(.long q4)])) _
                  refine X8.ldc2Long hx hown (mvT hZ (hw _ (List.mem_of_getElem? (i := 27) rfl))) (g := (mkF m 193 #[.val (.int p0), .val (.int p1), .val (.int p2), .val (.int p3), .val (.long q4), .second, .val (.int stn), .val (.ref b5), .val (.int (p1 &&& (7 : Int32))), .unset, .unset, .unset, .unset, .unset, .unset, .unset] [(.long q4)])) rfl (hb hby at_193) _ ?_
                  show Steps p.tables e below (T8.setTop (mkF m 196 #[.val (.int p0), .val (.int p1), .val (.int p2), .val (.int p3), .val (.long q4), .second, .val (.int stn), .val (.ref b5), .val (.int (p1 &&& (7 : Int32))), .unset, .unset, .unset, .unset, .unset, .unset, .unset] [(.long (9223372036854775807 : Int64)), (.long q4)])) _
                  refine XS.land X8.here hx rfl (hb hby at_196) rfl ?_
                  show Steps p.tables e below (T8.setTop (mkF m 197 #[.val (.int p0), .val (.int p1), .val (.int p2), .val (.int p3), .val (.long q4), .second, .val (.int stn), .val (.ref b5), .val (.int (p1 &&& (7 : Int32))), .unset, .unset, .unset, .unset, .unset, .unset, .unset] [(.long (q4 &&& (9223372036854775807 : Int64)))])) _
                  refine XS.lstore X8.here hx rfl (hb hby at_197) rfl (l' := #[.val (.int p0), .val (.int p1), .val (.int p2), .val (.int p3), .val (.long q4), .second, .val (.int stn), .val (.ref b5), .val (.int (p1 &&& (7 : Int32))), .unset, .unset, .unset, .val (.long (q4 &&& (9223372036854775807 : Int64))), .second, .unset, .unset]) rfl ?_
                  show Steps p.tables e below (T8.setTop (mkF m 199 #[.val (.int p0), .val (.int p1), .val (.int p2), .val (.int p3), .val (.long q4), .second, .val (.int stn), .val (.ref b5), .val (.int (p1 &&& (7 : Int32))), .unset, .unset, .unset, .val (.long (q4 &&& (9223372036854775807 : Int64))), .second, .unset, .unset] [])) _
                  refine XS.lload X8.here hx rfl (hb hby at_199) rfl ?_
                  show Steps p.tables e below (T8.setTop (mkF m 201 #[.val (.int p0), .val (.int p1), .val (.int p2), .val (.int p3), .val (.long q4), .second, .val (.int stn), .val (.ref b5), .val (.int (p1 &&& (7 : Int32))), .unset, .unset, .unset, .val (.long (q4 &&& (9223372036854775807 : Int64))), .second, .unset, .unset] [(.long (q4 &&& (9223372036854775807 : Int64)))])) _
                  refine XS.l2dS X8.here hx rfl (hb hby at_201) rfl rfl ?_
                  show Steps p.tables e below (T8.setTop (mkF m 202 #[.val (.int p0), .val (.int p1), .val (.int p2), .val (.int p3), .val (.long q4), .second, .val (.int stn), .val (.ref b5), .val (.int (p1 &&& (7 : Int32))), .unset, .unset, .unset, .val (.long (q4 &&& (9223372036854775807 : Int64))), .second, .unset, .unset] [(.double (FP.l2d (q4 &&& (9223372036854775807 : Int64))))])) _
                  refine XS.dstore X8.here hx rfl (hb hby at_202) rfl (l' := #[.val (.int p0), .val (.int p1), .val (.int p2), .val (.int p3), .val (.long q4), .second, .val (.int stn), .val (.ref b5), .val (.int (p1 &&& (7 : Int32))), .val (.double (FP.l2d (q4 &&& (9223372036854775807 : Int64)))), .second, .unset, .val (.long (q4 &&& (9223372036854775807 : Int64))), .second, .unset, .unset]) rfl ?_
                  show Steps p.tables e below (T8.setTop (mkF m 204 #[.val (.int p0), .val (.int p1), .val (.int p2), .val (.int p3), .val (.long q4), .second, .val (.int stn), .val (.ref b5), .val (.int (p1 &&& (7 : Int32))), .val (.double (FP.l2d (q4 &&& (9223372036854775807 : Int64)))), .second, .unset, .val (.long (q4 &&& (9223372036854775807 : Int64))), .second, .unset, .unset] [])) _
                  refine XS.lload X8.here hx rfl (hb hby at_204) rfl ?_
                  show Steps p.tables e below (T8.setTop (mkF m 206 #[.val (.int p0), .val (.int p1), .val (.int p2), .val (.int p3), .val (.long q4), .second, .val (.int stn), .val (.ref b5), .val (.int (p1 &&& (7 : Int32))), .val (.double (FP.l2d (q4 &&& (9223372036854775807 : Int64)))), .second, .unset, .val (.long (q4 &&& (9223372036854775807 : Int64))), .second, .unset, .unset] [(.long (q4 &&& (9223372036854775807 : Int64)))])) _
                  refine XS.lconst X8.here hx rfl (hb hby at_206) ?_
                  show Steps p.tables e below (T8.setTop (mkF m 207 #[.val (.int p0), .val (.int p1), .val (.int p2), .val (.int p3), .val (.long q4), .second, .val (.int stn), .val (.ref b5), .val (.int (p1 &&& (7 : Int32))), .val (.double (FP.l2d (q4 &&& (9223372036854775807 : Int64)))), .second, .unset, .val (.long (q4 &&& (9223372036854775807 : Int64))), .second, .unset, .unset] [(.long (0 : Int64)), (.long (q4 &&& (9223372036854775807 : Int64)))])) _
                  refine XS.lcmp X8.here hx rfl (hb hby at_207) rfl ?_
                  exact k
                by_cases hc208_65 : (q4 &&& (9223372036854775807 : Int64)) = (0 : Int64)
                ·
                  have a66 : ∀ t, Steps p.tables e below (T8.setTop (mkF m 222 #[.val (.int p0), .val (.int p1), .val (.int p2), .val (.int p3), .val (.long q4), .second, .val (.int stn), .val (.ref b5), .val (.int (p1 &&& (7 : Int32))), .val (.double (FP.l2d (q4 &&& (9223372036854775807 : Int64)))), .second, .val (.int (0 : Int32)), .val (.long (q4 &&& (9223372036854775807 : Int64))), .second, .unset, .unset] [(.double (FP.l2d (q4 &&& (9223372036854775807 : Int64)))), (.ref b5)])) t → Steps p.tables e below (s₁.setTop (entryFrame m #[(.int p0), (.int p1), (.int p2), (.int p3), (.long q4)] maxLocals)) t := by
                    intro t k
                    refine a64 t ?_
                    show Steps p.tables e below (T8.setTop (mkF m 208 #[.val (.int p0), .val (.int p1), .val (.int p2), .val (.int p3), .val (.long q4), .second, .val (.int stn), .val (.ref b5), .val (.int (p1 &&& (7 : Int32))), .val (.double (FP.l2d (q4 &&& (9223372036854775807 : Int64)))), .second, .unset, .val (.long (q4 &&& (9223372036854775807 : Int64))), .second, .unset, .unset] [(.int (lcmpW (q4 &&& (9223372036854775807 : Int64)) (0 : Int64)))])) _
                    refine XS.ifYes X8.here hx rfl (pc0 := 208) (pc' := 215) rfl (hb hby at_208) rfl ((if0 _ _).trans (teq ((lw_eq (q4 &&& (9223372036854775807 : Int64)) (0 : Int64)).mpr hc208_65)).1) (by decide) (by decide) ?_
                    show Steps p.tables e below (T8.setTop (mkF m 215 #[.val (.int p0), .val (.int p1), .val (.int p2), .val (.int p3), .val (.long q4), .second, .val (.int stn), .val (.ref b5), .val (.int (p1 &&& (7 : Int32))), .val (.double (FP.l2d (q4 &&& (9223372036854775807 : Int64)))), .second, .unset, .val (.long (q4 &&& (9223372036854775807 : Int64))), .second, .unset, .unset] [])) _
                    refine XS.iconst X8.here hx rfl (hb hby at_215) ?_
                    show Steps p.tables e below (T8.setTop (mkF m 216 #[.val (.int p0), .val (.int p1), .val (.int p2), .val (.int p3), .val (.long q4), .second, .val (.int stn), .val (.ref b5), .val (.int (p1 &&& (7 : Int32))), .val (.double (FP.l2d (q4 &&& (9223372036854775807 : Int64)))), .second, .unset, .val (.long (q4 &&& (9223372036854775807 : Int64))), .second, .unset, .unset] [(.int (0 : Int32))])) _
                    refine XS.istore X8.here hx rfl (hb hby at_216) rfl (l' := #[.val (.int p0), .val (.int p1), .val (.int p2), .val (.int p3), .val (.long q4), .second, .val (.int stn), .val (.ref b5), .val (.int (p1 &&& (7 : Int32))), .val (.double (FP.l2d (q4 &&& (9223372036854775807 : Int64)))), .second, .val (.int (0 : Int32)), .val (.long (q4 &&& (9223372036854775807 : Int64))), .second, .unset, .unset]) rfl ?_
                    show Steps p.tables e below (T8.setTop (mkF m 218 #[.val (.int p0), .val (.int p1), .val (.int p2), .val (.int p3), .val (.long q4), .second, .val (.int stn), .val (.ref b5), .val (.int (p1 &&& (7 : Int32))), .val (.double (FP.l2d (q4 &&& (9223372036854775807 : Int64)))), .second, .val (.int (0 : Int32)), .val (.long (q4 &&& (9223372036854775807 : Int64))), .second, .unset, .unset] [])) _
                    refine XS.aload X8.here hx rfl (hb hby at_218) rfl rfl ?_
                    show Steps p.tables e below (T8.setTop (mkF m 220 #[.val (.int p0), .val (.int p1), .val (.int p2), .val (.int p3), .val (.long q4), .second, .val (.int stn), .val (.ref b5), .val (.int (p1 &&& (7 : Int32))), .val (.double (FP.l2d (q4 &&& (9223372036854775807 : Int64)))), .second, .val (.int (0 : Int32)), .val (.long (q4 &&& (9223372036854775807 : Int64))), .second, .unset, .unset] [(.ref b5)])) _
                    refine XS.dload X8.here hx rfl (hb hby at_220) rfl ?_
                    exact k
                  obtain ⟨cq67, kq67, q67a, q67b, q67c⟩ := isOf hZ rfl (A5.keep K8q)
                  obtain ⟨_, _, ⟨T67, L67, k67, n67⟩, -, X67, ⟨Lc67, hQ67, l67, y67, z67⟩, st67⟩ := X8.virtualBack hx (y := (⟨"com/example/placewright/placewright/scheme/Broadcast", "bandwidth", "(D)D"⟩ : MethodName)) (z := (⟨"com/example/placewright/placewright/scheme/Broadcast", "bandwidth", "(D)D"⟩ : MethodName)) hown (mvT hZ (hw _ (List.mem_of_getElem? (i := 22) rfl))) (mvT hZ (hw _ (List.mem_of_getElem? (i := 23) rfl))) (notFace_of_selects (args := #[]) (mvT hZ (hw _ (List.mem_of_getElem? (i := 25) rfl)))) (mvT hZ (hw _ (List.mem_of_getElem? (i := 25) rfl))) (mvT hZ (hw _ (List.mem_of_getElem? (i := 24) rfl))) (by decide) (backOf (W := 0) (rmB l Z a0 hw [] b5 (FP.l2d (q4 &&& (9223372036854775807 : Int64))) stn T8.heap n0 (Nat.le_trans (Nat.le_trans Z0 E5.1) K8q.1) G8_0) hZ (hw _ (List.mem_of_getElem? (i := 26) rfl)) (hw _ (List.mem_of_getElem? (i := 7) rfl)) (by decide) (by decide)) q67a q67c (g := (mkF m 222 #[.val (.int p0), .val (.int p1), .val (.int p2), .val (.int p3), .val (.long q4), .second, .val (.int stn), .val (.ref b5), .val (.int (p1 &&& (7 : Int32))), .val (.double (FP.l2d (q4 &&& (9223372036854775807 : Int64)))), .second, .val (.int (0 : Int32)), .val (.long (q4 &&& (9223372036854775807 : Int64))), .second, .unset, .unset] [(.double (FP.l2d (q4 &&& (9223372036854775807 : Int64)))), (.ref b5)])) rfl (by rw [hml]; rfl) (Steps.refl _) (argsL := [(.double (FP.l2d (q4 &&& (9223372036854775807 : Int64))))]) (rest := []) (lenOf own_pd3 rfl) rfl (by show 2 * 0 + _ ≤ _; exact Nat.le_of_eq rfl) (hb hby at_222) (fun _ _ => ⟨rfl, rfl, (by decide : 1 + 0 ≤ _), (by decide : 1 + 0 ≤ _)⟩)
                  dsimp only [Pt.U, Pt.locs, Pt.cells, Pt.slots] at X67 l67 y67 z67 st67 hQ67
                  subst l67 y67 z67
                  obtain ⟨rfl, N67q, e67q⟩ := hQ67
                  have N67 := Fr.app N8 N67q
                  have a68 : ∀ t, Steps p.tables e below (T67.setTop (mkF m 225 #[.val (.int p0), .val (.int p1), .val (.int p2), .val (.int p3), .val (.long q4), .second, .val (.int stn), .val (.ref b5), .val (.int (p1 &&& (7 : Int32))), .val (.double (FP.l2d (q4 &&& (9223372036854775807 : Int64)))), .second, .val (.int (0 : Int32)), .val (.long (q4 &&& (9223372036854775807 : Int64))), .second, .unset, .unset] [(.double (if FP.dcmp (FP.l2d (q4 &&& (9223372036854775807 : Int64))) 0 = some .gt then FP.i2d stn else 0))])) t → Steps p.tables e below (s₁.setTop (entryFrame m #[(.int p0), (.int p1), (.int p2), (.int p3), (.long q4)] maxLocals)) t := fun t k => a66 t (st67.trans k)
                  obtain ⟨r, h_r⟩ : ∃ z : UInt64, z = (if FP.dcmp (FP.l2d (q4 &&& (9223372036854775807 : Int64))) 0 = some .gt then FP.i2d stn else 0) := ⟨_, rfl⟩
                  rw [← h_r] at a68
                  have a69 : ∀ t, Steps p.tables e below (T67.setTop (mkF m 254 #[.val (.int p0), .val (.int p1), .val (.int p2), .val (.int p3), .val (.long q4), .second, .val (.int stn), .val (.ref b5), .val (.int (p1 &&& (7 : Int32))), .val (.double (FP.l2d (q4 &&& (9223372036854775807 : Int64)))), .second, .val (.int (0 : Int32)), .val (.double r), .second, .val (.double (0 : UInt64)), .second] [(.int (1 : Int32))])) t → Steps p.tables e below (s₁.setTop (entryFrame m #[(.int p0), (.int p1), (.int p2), (.int p3), (.long q4)] maxLocals)) t := by
                    intro t k
                    refine a68 t ?_
                    show Steps p.tables e below (T67.setTop (mkF m 225 #[.val (.int p0), .val (.int p1), .val (.int p2), .val (.int p3), .val (.long q4), .second, .val (.int stn), .val (.ref b5), .val (.int (p1 &&& (7 : Int32))), .val (.double (FP.l2d (q4 &&& (9223372036854775807 : Int64)))), .second, .val (.int (0 : Int32)), .val (.long (q4 &&& (9223372036854775807 : Int64))), .second, .unset, .unset] [(.double r)])) _
                    refine XS.dstore X67.here hx rfl (hb hby at_225) rfl (l' := #[.val (.int p0), .val (.int p1), .val (.int p2), .val (.int p3), .val (.long q4), .second, .val (.int stn), .val (.ref b5), .val (.int (p1 &&& (7 : Int32))), .val (.double (FP.l2d (q4 &&& (9223372036854775807 : Int64)))), .second, .val (.int (0 : Int32)), .val (.double r), .second, .unset, .unset]) rfl ?_
                    show Steps p.tables e below (T67.setTop (mkF m 227 #[.val (.int p0), .val (.int p1), .val (.int p2), .val (.int p3), .val (.long q4), .second, .val (.int stn), .val (.ref b5), .val (.int (p1 &&& (7 : Int32))), .val (.double (FP.l2d (q4 &&& (9223372036854775807 : Int64)))), .second, .val (.int (0 : Int32)), .val (.double r), .second, .unset, .unset] [])) _
                    refine XS.iload X67.here hx rfl (hb hby at_227) rfl ?_
                    show Steps p.tables e below (T67.setTop (mkF m 229 #[.val (.int p0), .val (.int p1), .val (.int p2), .val (.int p3), .val (.long q4), .second, .val (.int stn), .val (.ref b5), .val (.int (p1 &&& (7 : Int32))), .val (.double (FP.l2d (q4 &&& (9223372036854775807 : Int64)))), .second, .val (.int (0 : Int32)), .val (.double r), .second, .unset, .unset] [(.int (0 : Int32))])) _
                    refine XS.ifYes X67.here hx rfl (pc0 := 229) (pc' := 238) rfl (hb hby at_229) rfl ((if0 _ _).trans (teq rfl).1) (by decide) (by decide) ?_
                    show Steps p.tables e below (T67.setTop (mkF m 238 #[.val (.int p0), .val (.int p1), .val (.int p2), .val (.int p3), .val (.long q4), .second, .val (.int stn), .val (.ref b5), .val (.int (p1 &&& (7 : Int32))), .val (.double (FP.l2d (q4 &&& (9223372036854775807 : Int64)))), .second, .val (.int (0 : Int32)), .val (.double r), .second, .unset, .unset] [])) _
                    refine XS.dconst0 X67.here hx rfl (hb hby at_238) (v := 0) rfl ?_
                    show Steps p.tables e below (T67.setTop (mkF m 239 #[.val (.int p0), .val (.int p1), .val (.int p2), .val (.int p3), .val (.long q4), .second, .val (.int stn), .val (.ref b5), .val (.int (p1 &&& (7 : Int32))), .val (.double (FP.l2d (q4 &&& (9223372036854775807 : Int64)))), .second, .val (.int (0 : Int32)), .val (.double r), .second, .unset, .unset] [(.double (0 : UInt64))])) _
                    refine XS.dstore X67.here hx rfl (hb hby at_239) rfl (l' := #[.val (.int p0), .val (.int p1), .val (.int p2), .val (.int p3), .val (.long q4), .second, .val (.int stn), .val (.ref b5), .val (.int (p1 &&& (7 : Int32))), .val (.double (FP.l2d (q4 &&& (9223372036854775807 : Int64)))), .second, .val (.int (0 : Int32)), .val (.double r), .second, .val (.double (0 : UInt64)), .second]) rfl ?_
                    show Steps p.tables e below (T67.setTop (mkF m 241 #[.val (.int p0), .val (.int p1), .val (.int p2), .val (.int p3), .val (.long q4), .second, .val (.int stn), .val (.ref b5), .val (.int (p1 &&& (7 : Int32))), .val (.double (FP.l2d (q4 &&& (9223372036854775807 : Int64)))), .second, .val (.int (0 : Int32)), .val (.double r), .second, .val (.double (0 : UInt64)), .second] [])) _
                    refine XS.dload X67.here hx rfl (hb hby at_241) rfl ?_
                    show Steps p.tables e below (T67.setTop (mkF m 243 #[.val (.int p0), .val (.int p1), .val (.int p2), .val (.int p3), .val (.long q4), .second, .val (.int stn), .val (.ref b5), .val (.int (p1 &&& (7 : Int32))), .val (.double (FP.l2d (q4 &&& (9223372036854775807 : Int64)))), .second, .val (.int (0 : Int32)), .val (.double r), .second, .val (.double (0 : UInt64)), .second] [(.double r)])) _
                    refine XS.dload X67.here hx rfl (hb hby at_243) rfl ?_
                    show Steps p.tables e below (T67.setTop (mkF m 245 #[.val (.int p0), .val (.int p1), .val (.int p2), .val (.int p3), .val (.long q4), .second, .val (.int stn), .val (.ref b5), .val (.int (p1 &&& (7 : Int32))), .val (.double (FP.l2d (q4 &&& (9223372036854775807 : Int64)))), .second, .val (.int (0 : Int32)), .val (.double r), .second, .val (.double (0 : UInt64)), .second] [(.double (0 : UInt64)), (.double r)])) _
                    refine XS.dcmpS X67.here hx rfl (hb hby at_245) rfl rfl ?_
                    show Steps p.tables e below (T67.setTop (mkF m 246 #[.val (.int p0), .val (.int p1), .val (.int p2), .val (.int p3), .val (.long q4), .second, .val (.int stn), .val (.ref b5), .val (.int (p1 &&& (7 : Int32))), .val (.double (FP.l2d (q4 &&& (9223372036854775807 : Int64)))), .second, .val (.int (0 : Int32)), .val (.double r), .second, .val (.double (0 : UInt64)), .second] [(.int (cmpValue (FP.dcmp r (0 : UInt64)) .l))])) _
                    refine XS.ifNo X67.here hx rfl (hb hby at_246) rfl ((if0 _ _).trans (teq (own_no h_r (own_eq0 (own_z64 hc208_65)))).2) ?_
                    show Steps p.tables e below (T67.setTop (mkF m 249 #[.val (.int p0), .val (.int p1), .val (.int p2), .val (.int p3), .val (.long q4), .second, .val (.int stn), .val (.ref b5), .val (.int (p1 &&& (7 : Int32))), .val (.double (FP.l2d (q4 &&& (9223372036854775807 : Int64)))), .second, .val (.int (0 : Int32)), .val (.double r), .second, .val (.double (0 : UInt64)), .second] [])) _
                    refine XS.iconst X67.here hx rfl (hb hby at_249) ?_
                    show Steps p.tables e below (T67.setTop (mkF m 250 #[.val (.int p0), .val (.int p1), .val (.int p2), .val (.int p3), .val (.long q4), .second, .val (.int stn), .val (.ref b5), .val (.int (p1 &&& (7 : Int32))), .val (.double (FP.l2d (q4 &&& (9223372036854775807 : Int64)))), .second, .val (.int (0 : Int32)), .val (.double r), .second, .val (.double (0 : UInt64)), .second] [(.int (1 : Int32))])) _
                    refine XS.goto X67.here hx rfl (pc0 := 250) (pc' := 254) rfl (hb hby at_250) (by decide) (by decide) ?_
                    exact k
                  obtain ⟨fs, hr, hrun, hended, hW, hsame⟩ := X67.leave (v := some (.int (1 : Int32))) (fun h => by rw [Bd.returns] at h; cases h)
                  refine ⟨_, _, a69 _ ?_, hrun, hended, _, _, rfl, ?_, ⟨_, rfl⟩, hW, hsame.mono (by decide) (by decide)⟩
                  · show Steps p.tables e below (T67.setTop (mkF m 254 #[.val (.int p0), .val (.int p1), .val (.int p2), .val (.int p3), .val (.long q4), .second, .val (.int stn), .val (.ref b5), .val (.int (p1 &&& (7 : Int32))), .val (.double (FP.l2d (q4 &&& (9223372036854775807 : Int64)))), .second, .val (.int (0 : Int32)), .val (.double r), .second, .val (.double (0 : UInt64)), .second] [(.int (1 : Int32))])) _
                    exact retN X67 hx (t := .boolean) Bd.returns (by simp) (hb hby at_254) hr
                  · show Q0 Z p0 p1 p2 p3 q4 h0 n0 _ T67.heap _
                    rw [e67q]
                    exact ⟨rfl, N67⟩
                ·
                  have a70 : ∀ t, Steps p.tables e below (T8.setTop (mkF m 222 #[.val (.int p0), .val (.int p1), .val (.int p2), .val (.int p3), .val (.long q4), .second, .val (.int stn), .val (.ref b5), .val (.int (p1 &&& (7 : Int32))), .val (.double (FP.l2d (q4 &&& (9223372036854775807 : Int64)))), .second, .val (.int (1 : Int32)), .val (.long (q4 &&& (9223372036854775807 : Int64))), .second, .unset, .unset] [(.double (FP.l2d (q4 &&& (9223372036854775807 : Int64)))), (.ref b5)])) t → Steps p.tables e below (s₁.setTop (entryFrame m #[(.int p0), (.int p1), (.int p2), (.int p3), (.long q4)] maxLocals)) t := by
                    intro t k
                    refine a64 t ?_
                    show Steps p.tables e below (T8.setTop (mkF m 208 #[.val (.int p0), .val (.int p1), .val (.int p2), .val (.int p3), .val (.long q4), .second, .val (.int stn), .val (.ref b5), .val (.int (p1 &&& (7 : Int32))), .val (.double (FP.l2d (q4 &&& (9223372036854775807 : Int64)))), .second, .unset, .val (.long (q4 &&& (9223372036854775807 : Int64))), .second, .unset, .unset] [(.int (lcmpW (q4 &&& (9223372036854775807 : Int64)) (0 : Int64)))])) _
                    refine XS.ifNo X8.here hx rfl (hb hby at_208) rfl ((if0 _ _).trans (feq (fun q => hc208_65 ((lw_eq (q4 &&& (9223372036854775807 : Int64)) (0 : Int64)).mp q))).1) ?_
                    show Steps p.tables e below (T8.setTop (mkF m 211 #[.val (.int p0), .val (.int p1), .val (.int p2), .val (.int p3), .val (.long q4), .second, .val (.int stn), .val (.ref b5), .val (.int (p1 &&& (7 : Int32))), .val (.double (FP.l2d (q4 &&& (9223372036854775807 : Int64)))), .second, .unset, .val (.long (q4 &&& (9223372036854775807 : Int64))), .second, .unset, .unset] [])) _
                    refine XS.iconst X8.here hx rfl (hb hby at_211) ?_
                    show Steps p.tables e below (T8.setTop (mkF m 212 #[.val (.int p0), .val (.int p1), .val (.int p2), .val (.int p3), .val (.long q4), .second, .val (.int stn), .val (.ref b5), .val (.int (p1 &&& (7 : Int32))), .val (.double (FP.l2d (q4 &&& (9223372036854775807 : Int64)))), .second, .unset, .val (.long (q4 &&& (9223372036854775807 : Int64))), .second, .unset, .unset] [(.int (1 : Int32))])) _
                    refine XS.goto X8.here hx rfl (pc0 := 212) (pc' := 216) rfl (hb hby at_212) (by decide) (by decide) ?_
                    show Steps p.tables e below (T8.setTop (mkF m 216 #[.val (.int p0), .val (.int p1), .val (.int p2), .val (.int p3), .val (.long q4), .second, .val (.int stn), .val (.ref b5), .val (.int (p1 &&& (7 : Int32))), .val (.double (FP.l2d (q4 &&& (9223372036854775807 : Int64)))), .second, .unset, .val (.long (q4 &&& (9223372036854775807 : Int64))), .second, .unset, .unset] [(.int (1 : Int32))])) _
                    refine XS.istore X8.here hx rfl (hb hby at_216) rfl (l' := #[.val (.int p0), .val (.int p1), .val (.int p2), .val (.int p3), .val (.long q4), .second, .val (.int stn), .val (.ref b5), .val (.int (p1 &&& (7 : Int32))), .val (.double (FP.l2d (q4 &&& (9223372036854775807 : Int64)))), .second, .val (.int (1 : Int32)), .val (.long (q4 &&& (9223372036854775807 : Int64))), .second, .unset, .unset]) rfl ?_
                    show Steps p.tables e below (T8.setTop (mkF m 218 #[.val (.int p0), .val (.int p1), .val (.int p2), .val (.int p3), .val (.long q4), .second, .val (.int stn), .val (.ref b5), .val (.int (p1 &&& (7 : Int32))), .val (.double (FP.l2d (q4 &&& (9223372036854775807 : Int64)))), .second, .val (.int (1 : Int32)), .val (.long (q4 &&& (9223372036854775807 : Int64))), .second, .unset, .unset] [])) _
                    refine XS.aload X8.here hx rfl (hb hby at_218) rfl rfl ?_
                    show Steps p.tables e below (T8.setTop (mkF m 220 #[.val (.int p0), .val (.int p1), .val (.int p2), .val (.int p3), .val (.long q4), .second, .val (.int stn), .val (.ref b5), .val (.int (p1 &&& (7 : Int32))), .val (.double (FP.l2d (q4 &&& (9223372036854775807 : Int64)))), .second, .val (.int (1 : Int32)), .val (.long (q4 &&& (9223372036854775807 : Int64))), .second, .unset, .unset] [(.ref b5)])) _
                    refine XS.dload X8.here hx rfl (hb hby at_220) rfl ?_
                    exact k
                  obtain ⟨cq71, kq71, q71a, q71b, q71c⟩ := isOf hZ rfl (A5.keep K8q)
                  obtain ⟨_, _, ⟨T71, L71, k71, n71⟩, -, X71, ⟨Lc71, hQ71, l71, y71, z71⟩, st71⟩ := X8.virtualBack hx (y := (⟨"com/example/placewright/placewright/scheme/Broadcast", "bandwidth", "(D)D"⟩ : MethodName)) (z := (⟨"com/example/placewright/placewright/scheme/Broadcast", "bandwidth", "(D)D"⟩ : MethodName)) hown (mvT hZ (hw _ (List.mem_of_getElem? (i := 22) rfl))) (mvT hZ (hw _ (List.mem_of_getElem? (i := 23) rfl))) (notFace_of_selects (args := #[]) (mvT hZ (hw _ (List.mem_of_getElem? (i := 25) rfl)))) (mvT hZ (hw _ (List.mem_of_getElem? (i := 25) rfl))) (mvT hZ (hw _ (List.mem_of_getElem? (i := 24) rfl))) (by decide) (backOf (W := 0) (rmB l Z a0 hw [] b5 (FP.l2d (q4 &&& (9223372036854775807 : Int64))) stn T8.heap n0 (Nat.le_trans (Nat.le_trans Z0 E5.1) K8q.1) G8_0) hZ (hw _ (List.mem_of_getElem? (i := 26) rfl)) (hw _ (List.mem_of_getElem? (i := 7) rfl)) (by decide) (by decide)) q71a q71c (g := (mkF m 222 #[.val (.int p0), .val (.int p1), .val (.int p2), .val (.int p3), .val (.long q4), .second, .val (.int stn), .val (.ref b5), .val (.int (p1 &&& (7 : Int32))), .val (.double (FP.l2d (q4 &&& (9223372036854775807 : Int64)))), .second, .val (.int (1 : Int32)), .val (.long (q4 &&& (9223372036854775807 : Int64))), .second, .unset, .unset] [(.double (FP.l2d (q4 &&& (9223372036854775807 : Int64)))), (.ref b5)])) rfl (by rw [hml]; rfl) (Steps.refl _) (argsL := [(.double (FP.l2d (q4 &&& (9223372036854775807 : Int64))))]) (rest := []) (lenOf own_pd3 rfl) rfl (by show 2 * 0 + _ ≤ _; exact Nat.le_of_eq rfl) (hb hby at_222) (fun _ _ => ⟨rfl, rfl, (by decide : 1 + 0 ≤ _), (by decide : 1 + 0 ≤ _)⟩)
                  dsimp only [Pt.U, Pt.locs, Pt.cells, Pt.slots] at X71 l71 y71 z71 st71 hQ71
                  subst l71 y71 z71
                  obtain ⟨rfl, N71q, e71q⟩ := hQ71
                  have N71 := Fr.app N8 N71q
                  have a72 : ∀ t, Steps p.tables e below (T71.setTop (mkF m 225 #[.val (.int p0), .val (.int p1), .val (.int p2), .val (.int p3), .val (.long q4), .second, .val (.int stn), .val (.ref b5), .val (.int (p1 &&& (7 : Int32))), .val (.double (FP.l2d (q4 &&& (9223372036854775807 : Int64)))), .second, .val (.int (1 : Int32)), .val (.long (q4 &&& (9223372036854775807 : Int64))), .second, .unset, .unset] [(.double (if FP.dcmp (FP.l2d (q4 &&& (9223372036854775807 : Int64))) 0 = some .gt then FP.i2d stn else 0))])) t → Steps p.tables e below (s₁.setTop (entryFrame m #[(.int p0), (.int p1), (.int p2), (.int p3), (.long q4)] maxLocals)) t := fun t k => a70 t (st71.trans k)
                  obtain ⟨r, h_r⟩ : ∃ z : UInt64, z = (if FP.dcmp (FP.l2d (q4 &&& (9223372036854775807 : Int64))) 0 = some .gt then FP.i2d stn else 0) := ⟨_, rfl⟩
                  rw [← h_r] at a72
                  have a73 : ∀ t, Steps p.tables e below (T71.setTop (mkF m 254 #[.val (.int p0), .val (.int p1), .val (.int p2), .val (.int p3), .val (.long q4), .second, .val (.int stn), .val (.ref b5), .val (.int (p1 &&& (7 : Int32))), .val (.double (FP.l2d (q4 &&& (9223372036854775807 : Int64)))), .second, .val (.int (1 : Int32)), .val (.double r), .second, .val (.double (FP.i2d stn)), .second] [(.int (1 : Int32))])) t → Steps p.tables e below (s₁.setTop (entryFrame m #[(.int p0), (.int p1), (.int p2), (.int p3), (.long q4)] maxLocals)) t := by
                    intro t k
                    refine a72 t ?_
                    show Steps p.tables e below (T71.setTop (mkF m 225 #[.val (.int p0), .val (.int p1), .val (.int p2), .val (.int p3), .val (.long q4), .second, .val (.int stn), .val (.ref b5), .val (.int (p1 &&& (7 : Int32))), .val (.double (FP.l2d (q4 &&& (9223372036854775807 : Int64)))), .second, .val (.int (1 : Int32)), .val (.long (q4 &&& (9223372036854775807 : Int64))), .second, .unset, .unset] [(.double r)])) _
                    refine XS.dstore X71.here hx rfl (hb hby at_225) rfl (l' := #[.val (.int p0), .val (.int p1), .val (.int p2), .val (.int p3), .val (.long q4), .second, .val (.int stn), .val (.ref b5), .val (.int (p1 &&& (7 : Int32))), .val (.double (FP.l2d (q4 &&& (9223372036854775807 : Int64)))), .second, .val (.int (1 : Int32)), .val (.double r), .second, .unset, .unset]) rfl ?_
                    show Steps p.tables e below (T71.setTop (mkF m 227 #[.val (.int p0), .val (.int p1), .val (.int p2), .val (.int p3), .val (.long q4), .second, .val (.int stn), .val (.ref b5), .val (.int (p1 &&& (7 : Int32))), .val (.double (FP.l2d (q4 &&& (9223372036854775807 : Int64)))), .second, .val (.int (1 : Int32)), .val (.double r), .second, .unset, .unset] [])) _
                    refine XS.iload X71.here hx rfl (hb hby at_227) rfl ?_
                    show Steps p.tables e below (T71.setTop (mkF m 229 #[.val (.int p0), .val (.int p1), .val (.int p2), .val (.int p3), .val (.long q4), .second, .val (.int stn), .val (.ref b5), .val (.int (p1 &&& (7 : Int32))), .val (.double (FP.l2d (q4 &&& (9223372036854775807 : Int64)))), .second, .val (.int (1 : Int32)), .val (.double r), .second, .unset, .unset] [(.int (1 : Int32))])) _
                    refine XS.ifNo X71.here hx rfl (hb hby at_229) rfl ((if0 _ _).trans (feq (by decide)).1) ?_
                    show Steps p.tables e below (T71.setTop (mkF m 232 #[.val (.int p0), .val (.int p1), .val (.int p2), .val (.int p3), .val (.long q4), .second, .val (.int stn), .val (.ref b5), .val (.int (p1 &&& (7 : Int32))), .val (.double (FP.l2d (q4 &&& (9223372036854775807 : Int64)))), .second, .val (.int (1 : Int32)), .val (.double r), .second, .unset, .unset] [])) _
                    refine XS.iload X71.here hx rfl (hb hby at_232) rfl ?_
                    show Steps p.tables e below (T71.setTop (mkF m 234 #[.val (.int p0), .val (.int p1), .val (.int p2), .val (.int p3), .val (.long q4), .second, .val (.int stn), .val (.ref b5), .val (.int (p1 &&& (7 : Int32))), .val (.double (FP.l2d (q4 &&& (9223372036854775807 : Int64)))), .second, .val (.int (1 : Int32)), .val (.double r), .second, .unset, .unset] [(.int stn)])) _
                    refine XS.i2dS X71.here hx rfl (hb hby at_234) rfl rfl ?_
                    show Steps p.tables e below (T71.setTop (mkF m 235 #[.val (.int p0), .val (.int p1), .val (.int p2), .val (.int p3), .val (.long q4), .second, .val (.int stn), .val (.ref b5), .val (.int (p1 &&& (7 : Int32))), .val (.double (FP.l2d (q4 &&& (9223372036854775807 : Int64)))), .second, .val (.int (1 : Int32)), .val (.double r), .second, .unset, .unset] [(.double (FP.i2d stn))])) _
                    refine XS.goto X71.here hx rfl (pc0 := 235) (pc' := 239) rfl (hb hby at_235) (by decide) (by decide) ?_
                    show Steps p.tables e below (T71.setTop (mkF m 239 #[.val (.int p0), .val (.int p1), .val (.int p2), .val (.int p3), .val (.long q4), .second, .val (.int stn), .val (.ref b5), .val (.int (p1 &&& (7 : Int32))), .val (.double (FP.l2d (q4 &&& (9223372036854775807 : Int64)))), .second, .val (.int (1 : Int32)), .val (.double r), .second, .unset, .unset] [(.double (FP.i2d stn))])) _
                    refine XS.dstore X71.here hx rfl (hb hby at_239) rfl (l' := #[.val (.int p0), .val (.int p1), .val (.int p2), .val (.int p3), .val (.long q4), .second, .val (.int stn), .val (.ref b5), .val (.int (p1 &&& (7 : Int32))), .val (.double (FP.l2d (q4 &&& (9223372036854775807 : Int64)))), .second, .val (.int (1 : Int32)), .val (.double r), .second, .val (.double (FP.i2d stn)), .second]) rfl ?_
                    show Steps p.tables e below (T71.setTop (mkF m 241 #[.val (.int p0), .val (.int p1), .val (.int p2), .val (.int p3), .val (.long q4), .second, .val (.int stn), .val (.ref b5), .val (.int (p1 &&& (7 : Int32))), .val (.double (FP.l2d (q4 &&& (9223372036854775807 : Int64)))), .second, .val (.int (1 : Int32)), .val (.double r), .second, .val (.double (FP.i2d stn)), .second] [])) _
                    refine XS.dload X71.here hx rfl (hb hby at_241) rfl ?_
                    show Steps p.tables e below (T71.setTop (mkF m 243 #[.val (.int p0), .val (.int p1), .val (.int p2), .val (.int p3), .val (.long q4), .second, .val (.int stn), .val (.ref b5), .val (.int (p1 &&& (7 : Int32))), .val (.double (FP.l2d (q4 &&& (9223372036854775807 : Int64)))), .second, .val (.int (1 : Int32)), .val (.double r), .second, .val (.double (FP.i2d stn)), .second] [(.double r)])) _
                    refine XS.dload X71.here hx rfl (hb hby at_243) rfl ?_
                    show Steps p.tables e below (T71.setTop (mkF m 245 #[.val (.int p0), .val (.int p1), .val (.int p2), .val (.int p3), .val (.long q4), .second, .val (.int stn), .val (.ref b5), .val (.int (p1 &&& (7 : Int32))), .val (.double (FP.l2d (q4 &&& (9223372036854775807 : Int64)))), .second, .val (.int (1 : Int32)), .val (.double r), .second, .val (.double (FP.i2d stn)), .second] [(.double (FP.i2d stn)), (.double r)])) _
                    refine XS.dcmpS X71.here hx rfl (hb hby at_245) rfl rfl ?_
                    show Steps p.tables e below (T71.setTop (mkF m 246 #[.val (.int p0), .val (.int p1), .val (.int p2), .val (.int p3), .val (.long q4), .second, .val (.int stn), .val (.ref b5), .val (.int (p1 &&& (7 : Int32))), .val (.double (FP.l2d (q4 &&& (9223372036854775807 : Int64)))), .second, .val (.int (1 : Int32)), .val (.double r), .second, .val (.double (FP.i2d stn)), .second] [(.int (cmpValue (FP.dcmp r (FP.i2d stn)) .l))])) _
                    refine XS.ifNo X71.here hx rfl (hb hby at_246) rfl ((if0 _ _).trans (teq (own_yes h_r (own_l_gt (own_ml_pos hc208_65)))).2) ?_
                    show Steps p.tables e below (T71.setTop (mkF m 249 #[.val (.int p0), .val (.int p1), .val (.int p2), .val (.int p3), .val (.long q4), .second, .val (.int stn), .val (.ref b5), .val (.int (p1 &&& (7 : Int32))), .val (.double (FP.l2d (q4 &&& (9223372036854775807 : Int64)))), .second, .val (.int (1 : Int32)), .val (.double r), .second, .val (.double (FP.i2d stn)), .second] [])) _
                    refine XS.iconst X71.here hx rfl (hb hby at_249) ?_
                    show Steps p.tables e below (T71.setTop (mkF m 250 #[.val (.int p0), .val (.int p1), .val (.int p2), .val (.int p3), .val (.long q4), .second, .val (.int stn), .val (.ref b5), .val (.int (p1 &&& (7 : Int32))), .val (.double (FP.l2d (q4 &&& (9223372036854775807 : Int64)))), .second, .val (.int (1 : Int32)), .val (.double r), .second, .val (.double (FP.i2d stn)), .second] [(.int (1 : Int32))])) _
                    refine XS.goto X71.here hx rfl (pc0 := 250) (pc' := 254) rfl (hb hby at_250) (by decide) (by decide) ?_
                    exact k
                  obtain ⟨fs, hr, hrun, hended, hW, hsame⟩ := X71.leave (v := some (.int (1 : Int32))) (fun h => by rw [Bd.returns] at h; cases h)
                  refine ⟨_, _, a73 _ ?_, hrun, hended, _, _, rfl, ?_, ⟨_, rfl⟩, hW, hsame.mono (by decide) (by decide)⟩
                  · show Steps p.tables e below (T71.setTop (mkF m 254 #[.val (.int p0), .val (.int p1), .val (.int p2), .val (.int p3), .val (.long q4), .second, .val (.int stn), .val (.ref b5), .val (.int (p1 &&& (7 : Int32))), .val (.double (FP.l2d (q4 &&& (9223372036854775807 : Int64)))), .second, .val (.int (1 : Int32)), .val (.double r), .second, .val (.double (FP.i2d stn)), .second] [(.int (1 : Int32))])) _
                    exact retN X71 hx (t := .boolean) Bd.returns (by simp) (hb hby at_254) hr
                  · show Q0 Z p0 p1 p2 p3 q4 h0 n0 _ T71.heap _
                    rw [e71q]
                    exact ⟨rfl, N71⟩
set_option maxRecDepth 65536 in
set_option maxHeartbeats 40000000 in
theorem comes_1 {Post : Tables → Env → Array Value → State → Outcome → State → Prop} (hpost : ∀ tb e args s v u, (limb_1_1.after args s (.returned v) u = true ∧ limb_1_2.after args s (.returned v) u = true ∧ True) → FrameEnd s (.returned v) u (Jvm.fieldLocs frame_1_writes args s ++ Jvm.arrayLocs frame_1_arrays args s ++ Jvm.staticLocs frame_1_statics s) 16 128 → Post tb e args s (.returned v) u) :
    ArmFor flags0 classFile x code maxLocals ret World_1 tables_1 room_1 Calls_1 rest_1 Pre_1 Post := by
  intro l hfl _ _ p e ha hc hk s m args below hf hA hF happ hP
  obtain ⟨hcalls, hrest, hpre⟩ := hP
  obtain ⟨-, -, -, hnamed, -, -, -, hat⟩ := (Spec.applies_iff hf).mp happ
  obtain ⟨hg, hn⟩ := and_e (Cond.before_iff.mp (show (Jvm.Cond.and given_1 narrow_1).before args s = true from hpre))
  obtain ⟨g1, g2⟩ := and_e hg
  obtain ⟨g3, g4⟩ := and_e g2
  obtain ⟨g5, g6⟩ := and_e g4
  obtain ⟨g7, g8⟩ := and_e g6
  obtain ⟨g9, g10⟩ := and_e g8
  obtain ⟨w0, w1, w2, w3, w4, rfl⟩ : ∃ w0 w1 w2 w3 w4 : Value, args = #[w0, w1, w2, w3, w4] := by
    have hs : args.size = 5 := by simpa [Cond.value, given_1] using g1
    obtain ⟨L⟩ := args
    match L, hs with
    | [w0, w1, w2, w3, w4], _ => exact ⟨w0, w1, w2, w3, w4, rfl⟩
  have hw := fun d (hd : d ∈ tables_1) => atoms_spec (ws := Jvm.Cond.code x code maxLocals ret :: tables_1) hat d (List.mem_cons_of_mem _ hd)
  have hfit : Fit s := fun {y c} hc i hi => by
    obtain ⟨ha, rfl⟩ := Array.getElem?_eq_some_iff.mp hc
    have q := List.all_eq_true.mp ((Array.all_eq_true_iff_forall_mem.mp hF) _ (Array.getElem_mem ha)) i (List.mem_range.mpr hi)
    simpa [Array.getElem?_eq_getElem hi] using q
  obtain ⟨i0, ei0⟩ := is_v g3
  obtain rfl : w0 = (.int i0) := Option.some.inj ei0
  obtain ⟨i1, ei1⟩ := is_v g5
  obtain rfl : w1 = (.int i1) := Option.some.inj ei1
  obtain ⟨i2, ei2⟩ := is_v g7
  obtain rfl : w2 = (.int i2) := Option.some.inj ei2
  obtain ⟨i3, ei3⟩ := is_v g9
  obtain rfl : w3 = (.int i3) := Option.some.inj ei3
  obtain ⟨i4, ei4⟩ := isL_v g10
  obtain rfl : w4 = (.long i4) := Option.some.inj ei4
  obtain ⟨n, o, h1, h2, h3, _, L, rfl, ⟨rfl, N⟩, hq⟩ := rm0 l s _ hw tables_1 i0 i1 i2 i3 i4  s.heap s.heap.size (Nat.le_refl _)  p e ha hc hk s m _ below hf ((Spec.applies_iff_loose hf).mp happ).1 ⟨rfl, State.Warmed39.refl s, rfl⟩ trivial
  refine ⟨n, _, h1, h2, h3, hpost _ _ _ _ _ _ ⟨Cond.after_iff.mpr rfl, Cond.after_iff.mpr (eq_i res_at (Term.int_eval (1)) rfl), trivial⟩ ⟨hq.1, hq.2.1, (hq.2.2.sift fun y hy => Or.inr (N y hy)).mono (by decide) (by decide)⟩⟩
theorem main_1_1 : Claimed_1_1 := comes_1 fun _ _ _ _ _ _ h hF => ⟨h.1, hF⟩
theorem main_1_2 : Claimed_1_2 := comes_1 fun _ _ _ _ _ _ h hF => ⟨h.2.1, hF⟩
end Jvm.Pilot.@@N@@
namespace Jvm.Pilot.@@N@@
open Jvm Jvm.ClassFile Sem Op Lib Jvm.Free Jvm.Stand Jvm.Pilot.@@N@@.Jvm.D
/-! MADE BY PROGRAM (witnessworld.py) out of the Statement's table words and the real class files: 12 classes; the members and pool entries that the words name. The judged class is class 1, her method 1. -/
namespace start1
open Jvm.ClassFile
def u (s : String) : CpInfo := .utf8 (stringToUtf16 s)
/-- a pool by its gaps: so many unusable entries, then the entry; so many at the end -/
def gap : Nat → List CpInfo → List CpInfo
  | 0, r => r
  | n + 1, r => .unusable :: gap n r
def poolList (es : List (Nat × CpInfo)) (last : Nat) : List CpInfo := es.foldr (fun e r => gap e.1 (e.2 :: r)) (gap last [])
def pool (es : List (Nat × CpInfo)) (last : Nat) : Array CpInfo := ⟨poolList es last⟩
def fileOf (pool : Array CpInfo) (this : Nat) (attrs : Array Attribute := #[]) (ms : Array MethodInfo := #[]) (fl : Nat := 33) (sup : Nat := 0) (ifs : Array Nat := #[]) (fds : Array FieldInfo := #[]) : ClassFile where
  minorVersion := 0
  majorVersion := 65
  constantPool := pool
  accessFlags := fl
  thisClass := this
  superClass := sup
  interfaces := ifs
  fields := fds
  methods := ms
  attributes := attrs
def plain (name : String) (sup : Option ClassId) : Class where
  name := name
  kind := .ordinary
  loader := none
  accessFlags := 33
  super := sup
  interfaces := #[]
  cf := none
  fields := #[]
  methods := #[]
  instanceTypes := #[]
  staticTypes := #[]
  resolved := #[]
  callSites := []
  init := .initialized
  statics := none
  mirror := none

def pool0 : Array CpInfo := pool [(5, u "<init>"), (0, u "()V"), (1, .class_ 10), (1, u "java/lang/Object")] 113

def k0c0 : Code := { maxStack := 0, maxLocals := 1, code := object_method_1_code, exceptionTable := #[], attributes := #[] }
def k0m0 : Method := { name := "<init>", desc := "()V", sig := { parameters := [], returnType := none }, accessFlags := 1, code := some k0c0 }
/-- java/lang/Object -/
def k0 : Class := { plain "java/lang/Object" none with
  accessFlags := 33
  interfaces := #[]
  cf := some (fileOf pool0 8 #[] #[{ accessFlags := 1, nameIndex := 5, descriptorIndex := 6, attributes := #[] }] 33 0 #[] #[])
  fields := #[]
  methods := #[k0m0]
  instanceTypes := #[]
  staticTypes := #[]
  resolved := Array.replicate 124 none
  statics := none }

def pool1 : Array CpInfo := pool [(2, .class_ 4), (1, u "java/lang/Object"), (0, u "<init>"), (0, u "()V"), (0, .integer 2147483647), (0, .methodref 9 10), (0, .class_ 11), (0, .nameAndType 12 13), (0, u "java/lang/Math"), (0, u "max"), (0, u "(II)I"), (0, .class_ 15), (0, u "com/example/placewright/placewright/scheme/Broadcast"), (0, .methodref 14 17), (0, .nameAndType 5 18), (0, u "(I)V"), (0, .integer 65535), (0, .double 1), (1, .double 9223372036854775808), (1, .double 9214871658872686752), (1, .double 4652218415073722368), (1, .long 9223372036854775807), (1, .methodref 14 31), (0, .nameAndType 32 33), (0, u "bandwidth"), (0, u "(D)D"), (0, .class_ 35), (0, u "com/example/placewright/placewright/scheme/BroadcastBandwidthPinLaw"), (2, u "law"), (0, u "(IIIIJ)Z")] 3

def k1m0 : Method := { name := "<init>", desc := "()V", sig := { parameters := [], returnType := none }, accessFlags := 1, code := none }
def k1c1 : Code := { maxStack := 4, maxLocals := 16, code := code, exceptionTable := #[], attributes := #[] }
def k1m1 : Method := { name := "law", desc := "(IIIIJ)Z", sig := { parameters := [.int, .int, .int, .int, .long], returnType := some .boolean }, accessFlags := 9, code := some k1c1 }
/-- com/example/placewright/placewright/scheme/BroadcastBandwidthPinLaw -/
def k1 : Class := { plain "com/example/placewright/placewright/scheme/BroadcastBandwidthPinLaw" (some 0) with
  accessFlags := 49
  interfaces := #[]
  cf := some (fileOf pool1 34 #[] #[{ accessFlags := 1, nameIndex := 5, descriptorIndex := 6, attributes := #[] }, { accessFlags := 9, nameIndex := 38, descriptorIndex := 39, attributes := #[] }] 49 2 #[] #[])
  fields := #[]
  methods := #[k1m0, k1m1]
  instanceTypes := #[]
  staticTypes := #[]
  resolved := Array.replicate 43 none
  statics := none }

def pool2 : Array CpInfo := pool [(1, .class_ 2), (0, u "java/lang/Math"), (1, .class_ 6), (1, u "java/lang/Object"), (0, u "<init>"), (0, u "()V"), (89, .class_ 100), (1, u "java/lang/Math$RandomNumberGeneratorHolder"), (71, u "negativeZeroFloatBits"), (0, u "J"), (2, u "negativeZeroDoubleBits"), (21, u "max"), (46, u "$assertionsDisabled"), (0, u "Z"), (88, u "(II)I"), (2, u "twoToTheDoubleScaleDown"), (0, u "D"), (4, u "twoToTheDoubleScaleUp"), (9, u "E"), (3, u "PI"), (2, u "TAU"), (2, u "DEGREES_TO_RADIANS"), (0, u "RADIANS_TO_DEGREES")] 94

def k2m0 : Method := { name := "<init>", desc := "()V", sig := { parameters := [], returnType := none }, accessFlags := 2, code := none }
def k2c1 : Code := { maxStack := 2, maxLocals := 2, code := jdk_29_method_65_code, exceptionTable := #[], attributes := #[] }
def k2m1 : Method := { name := "max", desc := "(II)I", sig := { parameters := [.int, .int], returnType := some .int }, accessFlags := 9, code := some k2c1 }
/-- java/lang/Math -/
def k2 : Class := { plain "java/lang/Math" (some 0) with
  accessFlags := 49
  interfaces := #[]
  cf := some (fileOf pool2 1 #[.nestMembers #[98]] #[{ accessFlags := 2, nameIndex := 7, descriptorIndex := 8, attributes := #[] }, { accessFlags := 9, nameIndex := 198, descriptorIndex := 335, attributes := #[] }] 49 4 #[] #[{ accessFlags := 25, nameIndex := 354, descriptorIndex := 339, attributes := #[] }, { accessFlags := 25, nameIndex := 358, descriptorIndex := 339, attributes := #[] }, { accessFlags := 25, nameIndex := 361, descriptorIndex := 339, attributes := #[] }, { accessFlags := 26, nameIndex := 364, descriptorIndex := 339, attributes := #[] }, { accessFlags := 26, nameIndex := 365, descriptorIndex := 339, attributes := #[] }, { accessFlags := 26, nameIndex := 172, descriptorIndex := 173, attributes := #[] }, { accessFlags := 26, nameIndex := 176, descriptorIndex := 173, attributes := #[] }, { accessFlags := 8, nameIndex := 344, descriptorIndex := 339, attributes := #[] }, { accessFlags := 8, nameIndex := 338, descriptorIndex := 339, attributes := #[] }, { accessFlags := 4120, nameIndex := 245, descriptorIndex := 246, attributes := #[] }])
  fields := #[{ name := "E", type := .double, accessFlags := 25, slot := 0, constantValue := 0 }, { name := "PI", type := .double, accessFlags := 25, slot := 1, constantValue := 0 }, { name := "TAU", type := .double, accessFlags := 25, slot := 2, constantValue := 0 }, { name := "DEGREES_TO_RADIANS", type := .double, accessFlags := 26, slot := 3, constantValue := 0 }, { name := "RADIANS_TO_DEGREES", type := .double, accessFlags := 26, slot := 4, constantValue := 0 }, { name := "negativeZeroFloatBits", type := .long, accessFlags := 26, slot := 5, constantValue := 0 }, { name := "negativeZeroDoubleBits", type := .long, accessFlags := 26, slot := 6, constantValue := 0 }, { name := "twoToTheDoubleScaleUp", type := .double, accessFlags := 8, slot := 7, constantValue := 0 }, { name := "twoToTheDoubleScaleDown", type := .double, accessFlags := 8, slot := 8, constantValue := 0 }, { name := "$assertionsDisabled", type := .boolean, accessFlags := 4120, slot := 9, constantValue := 0 }]
  methods := #[k2m0, k2m1]
  instanceTypes := #[]
  staticTypes := #[.double, .double, .double, .double, .double, .long, .long, .double, .double, .boolean]
  resolved := Array.replicate 460 none
  statics := none }

def pool3 : Array CpInfo := pool [(1, .methodref 2 3), (0, .class_ 4), (0, .nameAndType 5 6), (0, u "java/lang/Object"), (0, u "<init>"), (0, u "()V"), (0, .class_ 8), (0, u "java/lang/Record")] 13

def k3c0 : Code := { maxStack := 1, maxLocals := 1, code := jdk_30_method_1_code, exceptionTable := #[], attributes := #[] }
def k3m0 : Method := { name := "<init>", desc := "()V", sig := { parameters := [], returnType := none }, accessFlags := 4, code := some k3c0 }
/-- java/lang/Record -/
def k3 : Class := { plain "java/lang/Record" (some 0) with
  accessFlags := 1057
  interfaces := #[]
  cf := some (fileOf pool3 7 #[] #[{ accessFlags := 4, nameIndex := 5, descriptorIndex := 6, attributes := #[] }] 1057 2 #[] #[])
  fields := #[]
  methods := #[k3m0]
  instanceTypes := #[]
  staticTypes := #[]
  resolved := Array.replicate 22 none
  statics := none }

def pool4 : Array CpInfo := pool [(1, .class_ 2), (0, u "com/example/placewright/placewright/scheme/Scheme"), (0, .class_ 4), (0, u "java/lang/Object")] 17

/-- com/example/placewright/placewright/scheme/Scheme -/
def k4 : Class := { plain "com/example/placewright/placewright/scheme/Scheme" (some 0) with
  accessFlags := 1537
  interfaces := #[]
  cf := some (fileOf pool4 1 #[] #[] 1537 3 #[] #[])
  fields := #[]
  methods := #[]
  instanceTypes := #[]
  staticTypes := #[]
  resolved := Array.replicate 22 none
  statics := none }

def pool5 : Array CpInfo := pool [(1, .methodref 2 3), (0, .class_ 4), (0, .nameAndType 5 6), (0, u "java/lang/Record"), (0, u "<init>"), (0, u "()V"), (9, .fieldref 17 18), (0, .class_ 19), (0, .nameAndType 20 21), (0, u "com/example/placewright/placewright/scheme/Broadcast"), (0, u "streams"), (0, u "I"), (14, .class_ 37), (0, u "com/example/placewright/placewright/scheme/Scheme"), (0, u "NAME"), (0, u "Ljava/lang/String;"), (1, u "(I)V"), (6, u "bandwidth"), (0, u "(D)D")] 31

def k5c0 : Code := { maxStack := 3, maxLocals := 2, code := prog_32_method_1_code, exceptionTable := #[], attributes := #[] }
def k5m0 : Method := { name := "<init>", desc := "(I)V", sig := { parameters := [.int], returnType := none }, accessFlags := 1, code := some k5c0 }
def k5c1 : Code := { maxStack := 4, maxLocals := 3, code := prog_32_method_3_code, exceptionTable := #[], attributes := #[] }
def k5m1 : Method := { name := "bandwidth", desc := "(D)D", sig := { parameters := [.double], returnType := some .double }, accessFlags := 1, code := some k5c1 }
/-- com/example/placewright/placewright/scheme/Broadcast -/
def k5 : Class := { plain "com/example/placewright/placewright/scheme/Broadcast" (some 3) with
  accessFlags := 49
  interfaces := #[4]
  cf := some (fileOf pool5 17 #[] #[{ accessFlags := 1, nameIndex := 5, descriptorIndex := 41, attributes := #[] }, { accessFlags := 1, nameIndex := 48, descriptorIndex := 49, attributes := #[] }] 49 2 #[36] #[{ accessFlags := 18, nameIndex := 20, descriptorIndex := 21, attributes := #[] }, { accessFlags := 25, nameIndex := 38, descriptorIndex := 39, attributes := #[] }])
  fields := #[{ name := "streams", type := .int, accessFlags := 18, slot := 0, constantValue := 0 }, { name := "NAME", type := (.object "java/lang/String"), accessFlags := 25, slot := 0, constantValue := 0 }]
  methods := #[k5m0, k5m1]
  instanceTypes := #[.int]
  staticTypes := #[(.object "java/lang/String")]
  resolved := Array.replicate 81 none
  statics := none }

def pool6 : Array CpInfo := pool [(1, u "java/lang/Cloneable"), (0, .class_ 1), (0, u "java/lang/Object"), (0, .class_ 3)] 3

/-- java/lang/Cloneable -/
def k6 : Class := { plain "java/lang/Cloneable" (some 0) with
  accessFlags := 1537
  interfaces := #[]
  cf := some (fileOf pool6 2 #[] #[] 1537 4 #[] #[])
  fields := #[]
  methods := #[]
  instanceTypes := #[]
  staticTypes := #[]
  resolved := Array.replicate 8 none
  statics := none }

def pool7 : Array CpInfo := pool [(1, u "java/io/Serializable"), (0, .class_ 1), (0, u "java/lang/Object"), (0, .class_ 3)] 3

/-- java/io/Serializable -/
def k7 : Class := { plain "java/io/Serializable" (some 0) with
  accessFlags := 1537
  interfaces := #[]
  cf := some (fileOf pool7 2 #[] #[] 1537 4 #[] #[])
  fields := #[]
  methods := #[]
  instanceTypes := #[]
  staticTypes := #[]
  resolved := Array.replicate 8 none
  statics := none }

/-- the primitive byte -/
def k8 : Class := { plain "byte" none with kind := .primitive 'B', accessFlags := 0x411 }
/-- [B -/
def k9 : Class := { plain "[B" (some 0) with kind := .array 8 .byte, interfaces := #[6, 7], accessFlags := 1041 }

/-- the primitive int -/
def k10 : Class := { plain "int" none with kind := .primitive 'I', accessFlags := 0x411 }
/-- [I -/
def k11 : Class := { plain "[I" (some 0) with kind := .array 10 .int, interfaces := #[6, 7], accessFlags := 1041 }

def heap : Heap := #[]
def classes : Array Class := #[k0, k1, k2, k3, k4, k5, k6, k7, k8, k9, k10, k11]
def interned : List (Array UInt16 × Addr) := []
def slotsUsed : Nat := 0
def theMethod : MethodId := ⟨1, 1⟩
def args0 : Array Value := #[.int 7, .int 5, .int 1, .int 2, .long 3]
def aboutOver (below : List Frame) : State where
  vm := { classes := classes, interned := interned.toArray }
  heap := heap
  slotsUsed := slotsUsed
  threads := #[{ frames := .invoking theMethod args0 :: below }]
def below0 : List Frame := [.native { method := ⟨0, 0⟩, args := #[] }]
def about1 : State := aboutOver below0
def p0 : Program := .bare "" "" ""
def e0 : Env := launch0.env 0 0 0
theorem w_frames : about1.frames = Frame.invoking theMethod args0 :: below0 := rfl
set_option maxRecDepth 65536 in
theorem w_args : argsFit about1.vm theMethod args0 = true := by decide +kernel
set_option maxRecDepth 65536 in
theorem w_heap : heapFits about1 = true := by decide +kernel
set_option maxRecDepth 65536 in
theorem w_runnable : about1.curStatus? = some .runnable := by decide +kernel
set_option maxRecDepth 65536 in
theorem w_alone : about1.alone = true := by decide +kernel
set_option maxRecDepth 65536 in
theorem w_named : about1.methodNamed? x = some theMethod := by decide +kernel
set_option maxRecDepth 65536 in
theorem w_hears : about1.hears theMethod below0 = true := by decide +kernel
set_option maxRecDepth 65536 in
theorem w_ripe : about1.ripe theMethod args0 below0 = true := by decide +kernel
theorem w_running : about1.status = .running := rfl
set_option maxRecDepth 65536 in
theorem w_room : about1.hasRoom e0.platform room_1 = true :=
  launch0.hasRoom_least _ room_1 (by decide +kernel) (by decide +kernel) (by decide +kernel) (by decide +kernel) (by decide +kernel) (by decide +kernel)
theorem allAtoms_all (ts : List Jvm.Cond) (a : Array Jvm.Value) (st : Jvm.State) : (allAtoms ts).before a st = ts.all (fun c => c.before a st) := by
  induction ts with
  | nil => rfl
  | cons c t ih =>
    show (Jvm.Cond.and c (allAtoms t)).before a st = _
    rw [Jvm.Cond.before_and, ih, List.all_cons]
def words1 : List Jvm.Cond := Jvm.Cond.code x code maxLocals ret :: tables_1
/-- a 'code' word, met by the world's own term for the bytes: nothing is compared byte by byte -/
theorem code_word {y : MethodName} {bytes : ByteArray} {mx : Nat} {rt : Option FieldType} {a : Array Value} {s : State} {m : MethodId} {meth : Method} {c : Code} (h1 : s.methodNamed? y = some m) (h2 : s.vm.method? m = some meth) (h3 : meth.code = some c) (h4 : c.code = bytes)
    (h5 : (c.maxLocals == mx && c.exceptionTable.isEmpty && decide (c.maxStack ≤ mostOperands) && decide (meth.sig.returnType = rt) && !meth.locks && decide (parseMethodDescriptor y.desc = some meth.sig)) = true) : (Jvm.Cond.code y bytes mx rt).before a s = true := by
  simp only [Bool.and_eq_true, beq_iff_eq, Bool.not_eq_true', decide_eq_true_eq] at h5
  obtain ⟨⟨⟨⟨⟨g1, g2⟩, g3⟩, g4⟩, g5⟩, g6⟩ := h5
  simp [Cond.before, Cond.holds, Cond.value, h1, h2, h3, h4, g1, g2, g3, g4, g5, g6]
def isCode : Jvm.Cond → Bool
  | .code _ _ _ _ => true
  | _ => false
theorem all_split {L : List Jvm.Cond} {P : Jvm.Cond → Bool} (h1 : L.all (fun c => isCode c || P c) = true) (h2 : ∀ c ∈ L.filter isCode, P c = true) : L.all P = true := by
  refine List.all_eq_true.mpr fun c hc => ?_
  have h := List.all_eq_true.mp h1 c hc
  rcases Bool.eq_false_or_eq_true (isCode c) with hi | hi
  · exact h2 c (List.mem_filter.mpr ⟨hc, hi⟩)
  · simpa [hi] using h
set_option maxRecDepth 65536 in
theorem w_c0 : (Jvm.Cond.code x code maxLocals ret).before args0 about1 = true := code_word (m := ⟨1, 1⟩) (meth := k1m1) (c := k1c1) (by decide +kernel) rfl rfl rfl (by decide +kernel)
set_option maxRecDepth 65536 in
theorem w_c1 : (Jvm.Cond.code ({ cls := "java/lang/Math", name := "max", desc := "(II)I" } : Jvm.MethodName) jdk_29_method_65_code (2 : Nat) (Option.some Jvm.ClassFile.FieldType.int)).before args0 about1 = true := code_word (m := ⟨2, 1⟩) (meth := k2m1) (c := k2c1) (by decide +kernel) rfl rfl rfl (by decide +kernel)
set_option maxRecDepth 65536 in
theorem w_c2 : (Jvm.Cond.code ({ cls := "com/example/placewright/placewright/scheme/Broadcast", name := "<init>", desc := "(I)V" } : Jvm.MethodName) prog_32_method_1_code (2 : Nat) (Option.none : Option Jvm.ClassFile.FieldType)).before args0 about1 = true := code_word (m := ⟨5, 0⟩) (meth := k5m0) (c := k5c0) (by decide +kernel) rfl rfl rfl (by decide +kernel)
set_option maxRecDepth 65536 in
theorem w_c3 : (Jvm.Cond.code ({ cls := "java/lang/Record", name := "<init>", desc := "()V" } : Jvm.MethodName) jdk_30_method_1_code (1 : Nat) (Option.none : Option Jvm.ClassFile.FieldType)).before args0 about1 = true := code_word (m := ⟨3, 0⟩) (meth := k3m0) (c := k3c0) (by decide +kernel) rfl rfl rfl (by decide +kernel)
set_option maxRecDepth 65536 in
theorem w_c4 : (Jvm.Cond.code ({ cls := "java/lang/Object", name := "<init>", desc := "()V" } : Jvm.MethodName) object_method_1_code (1 : Nat) (Option.none : Option Jvm.ClassFile.FieldType)).before args0 about1 = true := code_word (m := ⟨0, 0⟩) (meth := k0m0) (c := k0c0) (by decide +kernel) rfl rfl rfl (by decide +kernel)
set_option maxRecDepth 65536 in
theorem w_c5 : (Jvm.Cond.code ({ cls := "com/example/placewright/placewright/scheme/Broadcast", name := "bandwidth", desc := "(D)D" } : Jvm.MethodName) prog_32_method_3_code (3 : Nat) (Option.some Jvm.ClassFile.FieldType.double)).before args0 about1 = true := code_word (m := ⟨5, 1⟩) (meth := k5m1) (c := k5c1) (by decide +kernel) rfl rfl rfl (by decide +kernel)
def codes1 : List Jvm.Cond := [Jvm.Cond.code x code maxLocals ret, Jvm.Cond.code ({ cls := "java/lang/Math", name := "max", desc := "(II)I" } : Jvm.MethodName) jdk_29_method_65_code (2 : Nat) (Option.some Jvm.ClassFile.FieldType.int), Jvm.Cond.code ({ cls := "com/example/placewright/placewright/scheme/Broadcast", name := "<init>", desc := "(I)V" } : Jvm.MethodName) prog_32_method_1_code (2 : Nat) (Option.none : Option Jvm.ClassFile.FieldType), Jvm.Cond.code ({ cls := "java/lang/Record", name := "<init>", desc := "()V" } : Jvm.MethodName) jdk_30_method_1_code (1 : Nat) (Option.none : Option Jvm.ClassFile.FieldType), Jvm.Cond.code ({ cls := "java/lang/Object", name := "<init>", desc := "()V" } : Jvm.MethodName) object_method_1_code (1 : Nat) (Option.none : Option Jvm.ClassFile.FieldType), Jvm.Cond.code ({ cls := "com/example/placewright/placewright/scheme/Broadcast", name := "bandwidth", desc := "(D)D" } : Jvm.MethodName) prog_32_method_3_code (3 : Nat) (Option.some Jvm.ClassFile.FieldType.double)]
set_option maxRecDepth 65536 in
theorem codes_eq : words1.filter isCode = codes1 := rfl
theorem w_codes : ∀ c ∈ words1.filter isCode, c.before args0 about1 = true := by
  rw [codes_eq]
  intro c hc
  simp only [codes1, List.mem_cons, List.not_mem_nil, or_false] at hc
  rcases hc with rfl | rfl | rfl | rfl | rfl | rfl
  · exact w_c0
  · exact w_c1
  · exact w_c2
  · exact w_c3
  · exact w_c4
  · exact w_c5
set_option maxRecDepth 65536 in
theorem w_t1 : (words1.take 24).all (fun c => isCode c || c.before args0 about1) = true := by decide +kernel
set_option maxRecDepth 65536 in
theorem w_t2 : (words1.drop 24).all (fun c => isCode c || c.before args0 about1) = true := by decide +kernel
theorem w_tables : (allAtoms (Jvm.Cond.code x code maxLocals ret :: tables_1)).before args0 about1 = true := by
  rw [allAtoms_all]
  show words1.all (fun c => c.before args0 about1) = true
  refine all_split ?_ w_codes
  rw [← List.take_append_drop 24 words1, List.all_append, w_t1, w_t2]
  rfl
set_option maxRecDepth 65536 in
theorem w_case : (Jvm.Cond.and given_1 narrow_1).before args0 about1 = true := by decide +kernel
theorem w_applies : (headSpec (Jvm.Cond.code x code maxLocals ret :: tables_1) room_1).applies x e0.platform about1 = true :=
  (Spec.applies_iff w_frames).mpr ⟨w_running, w_runnable, w_alone, w_named, w_hears, w_ripe, w_room, w_tables⟩
theorem atStart : AtStart classFile x code maxLocals ret World_1 tables_1 room_1 Calls_1 rest_1 Pre_1 launch0 p0 e0 about1 theMethod args0 below0 :=
  ⟨lists_1, trivial, launch0.admits_env _ _ _, launch0.least_env, fairChoices_fair.cas, fairChoices_fair.clock, w_frames, w_args, w_heap, w_applies, trivial, trivial, w_case⟩
end start1
theorem witness_1 : WitnessClaimed_1 := ⟨start1.p0, start1.e0, start1.about1, start1.theMethod, start1.args0, start1.below0, start1.atStart⟩
end Jvm.Pilot.@@N@@
