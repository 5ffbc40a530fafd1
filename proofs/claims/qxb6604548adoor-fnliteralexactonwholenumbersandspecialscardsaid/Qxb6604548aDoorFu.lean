import Derived.Laws.FloatArith
namespace Go.Proofs.Qxb6604548aDoor

/-- the sign bit of a double. -/
def sb (b : Nat) : Bool := decide (b / 9223372036854775808 ≠ 0)
theorem sb_read {b : Nat} (hb : b < 18446744073709551616) : (b / 9223372036854775808 % 2 == 1) = sb b := by
  unfold sb
  have : b / 9223372036854775808 = 0 ∨ b / 9223372036854775808 = 1 := by omega
  rcases this with h | h <;> rw [h] <;> rfl
theorem rd {b : Nat} (hb : b < 18446744073709551616) : Ieee.double.read b =
    if b % 9223372036854775808 < 4503599627370496 then .number (sb b) (b % 9223372036854775808) (-1074)
    else if b % 9223372036854775808 < 9218868437227405312 then .number (sb b) (4503599627370496 + b % 9223372036854775808 % 4503599627370496) (-1074 + (b % 9223372036854775808 / 4503599627370496 - 1 : Nat))
    else if b % 9223372036854775808 = 9218868437227405312 then .infinity (sb b)
    else .nan (sb b) (b % 9223372036854775808 - 9218868437227405312) := by
  rw [← sb_read hb]
  rfl
theorem rd_fin {b : Nat} (hb : b < 18446744073709551616) (h : b % 9223372036854775808 < 9218868437227405312) : ∃ m i, Ieee.double.read b = .number (sb b) m i ∧ m < 9007199254740992 ∧ -1074 ≤ i ∧ i ≤ 971 ∧ (m = 0 ↔ b % 9223372036854775808 = 0) := by
  rw [rd hb]
  split
  · exact ⟨_, _, rfl, by omega, by omega, by omega, Iff.rfl⟩
  · exact ⟨_, _, rfl, by omega, by omega, by omega, by omega⟩
theorem rd_inf {b : Nat} (hb : b < 18446744073709551616) (h : b % 9223372036854775808 = 9218868437227405312) : Ieee.double.read b = .infinity (sb b) := by
  rw [rd hb, if_neg (by omega), if_neg (by omega), if_pos h]
theorem rd_nan {b : Nat} (hb : b < 18446744073709551616) (h : 9218868437227405312 < b % 9223372036854775808) : ∃ s f, Ieee.double.read b = .nan s f := by
  rw [rd hb, if_neg (by omega), if_neg (by omega), if_neg (by omega)]
  exact ⟨_, _, rfl⟩
theorem rd_max : Ieee.double.read 9218868437227405311 = .number false 9007199254740991 971 := by decide +kernel
theorem rd_min : Ieee.double.read 18442240474082181119 = .number true 9007199254740991 971 := by decide +kernel
theorem rd_zero : Ieee.double.read 0 = .number false 0 (-1074) := by decide +kernel
theorem signed_eq (s : Bool) (m k : Nat) : Ieee.signed s m k = if s then -((m * 2 ^ k : Nat) : Int) else ((m * 2 ^ k : Nat) : Int) := by
  unfold Ieee.signed
  rw [Nat.shiftLeft_eq]

/-! ### a NaN -/
theorem nan_neq {b : Nat} (hb : b < 18446744073709551616) (h : 9218868437227405312 < b % 9223372036854775808) : (Ieee.double.order b b != some .eq) = true := by
  obtain ⟨s, f, e⟩ := rd_nan hb h
  unfold Ieee.Format.order
  rw [e]
  rfl
/-! ### the infinities -/
theorem inf_neq {b : Nat} (hb : b < 18446744073709551616) (h : b % 9223372036854775808 = 9218868437227405312) : (Ieee.double.order b b != some .eq) = false := by
  unfold Ieee.Format.order
  rw [rd_inf hb h]
  cases sb b <;> rfl
theorem inf_gt {b : Nat} (hb : b < 18446744073709551616) (h : b % 9223372036854775808 = 9218868437227405312) : (Ieee.double.order b 9218868437227405311 == some .gt) = !sb b := by
  unfold Ieee.Format.order
  rw [rd_inf hb h, rd_max]
  cases sb b <;> rfl
theorem inf_lt {b : Nat} (hb : b < 18446744073709551616) (h : b % 9223372036854775808 = 9218868437227405312) : (Ieee.double.order b 18442240474082181119 == some .lt) = sb b := by
  unfold Ieee.Format.order
  rw [rd_inf hb h, rd_min]
  cases sb b <;> rfl
/-! ### the finite -/
theorem cmp_self (a : Int) : compare a a = .eq := by simp
theorem cmp_gt {a b : Int} : (compare a b == .gt) = decide (b < a) := by
  show (compareOfLessAndEq a b == .gt) = _
  unfold compareOfLessAndEq
  split
  · first | (rw [decide_eq_true (by omega)]; rfl) | (rw [decide_eq_false (by omega)]; rfl)
  · split
    · rw [decide_eq_false (by omega)]; rfl
    · first | (rw [decide_eq_true (by omega)]; rfl) | (rw [decide_eq_false (by omega)]; rfl)
theorem cmp_lt {a b : Int} : (compare a b == .lt) = decide (a < b) := by
  show (compareOfLessAndEq a b == .lt) = _
  unfold compareOfLessAndEq
  split
  · first | (rw [decide_eq_true (by omega)]; rfl) | (rw [decide_eq_false (by omega)]; rfl)
  · split
    · rw [decide_eq_false (by omega)]; rfl
    · first | (rw [decide_eq_true (by omega)]; rfl) | (rw [decide_eq_false (by omega)]; rfl)
theorem cmp_eq {a b : Int} : (compare a b == .eq) = decide (a = b) := by
  show (compareOfLessAndEq a b == .eq) = _
  unfold compareOfLessAndEq
  split
  · rw [decide_eq_false (by omega)]; rfl
  · split
    · rw [decide_eq_true (by omega)]; rfl
    · rw [decide_eq_false (by omega)]; rfl
theorem some_beq (o p : Ordering) : ((some o : Option Ordering) == some p) = (o == p) := by cases o <;> cases p <;> rfl
theorem fin_neq {b : Nat} (hb : b < 18446744073709551616) (h : b % 9223372036854775808 < 9218868437227405312) : (Ieee.double.order b b != some .eq) = false := by
  obtain ⟨m, i, e, _⟩ := rd_fin hb h
  unfold Ieee.Format.order
  rw [e]
  simp [Ieee.Datum.order]
theorem fin_gt {b : Nat} (hb : b < 18446744073709551616) (h : b % 9223372036854775808 < 9218868437227405312) : (Ieee.double.order b 9218868437227405311 == some .gt) = false := by
  obtain ⟨m, i, e, h1, h2, h3, _⟩ := rd_fin hb h
  unfold Ieee.Format.order
  rw [e, rd_max]
  simp only [Ieee.Datum.order]
  rw [some_beq, cmp_gt, decide_eq_false_iff_not, signed_eq, signed_eq, Int.min_eq_left h3, Int.sub_self, Int.toNat_zero]
  have hp : 1 ≤ 2 ^ (971 - i).toNat := Nat.one_le_two_pow
  generalize 2 ^ (971 - i).toNat = P at *
  have : 9007199254740991 * 1 ≤ 9007199254740991 * P := Nat.mul_le_mul_left _ hp
  cases sb b <;> simp <;> omega
theorem fin_lt {b : Nat} (hb : b < 18446744073709551616) (h : b % 9223372036854775808 < 9218868437227405312) : (Ieee.double.order b 18442240474082181119 == some .lt) = false := by
  obtain ⟨m, i, e, h1, h2, h3, _⟩ := rd_fin hb h
  unfold Ieee.Format.order
  rw [e, rd_min]
  simp only [Ieee.Datum.order]
  rw [some_beq, cmp_lt, decide_eq_false_iff_not, signed_eq, signed_eq, Int.min_eq_left h3, Int.sub_self, Int.toNat_zero]
  have hp : 1 ≤ 2 ^ (971 - i).toNat := Nat.one_le_two_pow
  generalize 2 ^ (971 - i).toNat = P at *
  have : 9007199254740991 * 1 ≤ 9007199254740991 * P := Nat.mul_le_mul_left _ hp
  cases sb b <;> simp <;> omega
theorem fin_lt0 {b : Nat} (hb : b < 18446744073709551616) (h : b % 9223372036854775808 < 9218868437227405312) (h0 : b % 9223372036854775808 ≠ 0) : (Ieee.double.order b 0 == some .lt) = sb b := by
  obtain ⟨m, i, e, h1, h2, h3, h4⟩ := rd_fin hb h
  have hm : m ≠ 0 := fun hm => h0 (h4.1 hm)
  unfold Ieee.Format.order
  rw [e, rd_zero]
  simp only [Ieee.Datum.order]
  rw [some_beq, cmp_lt, signed_eq, signed_eq]
  have hp : 1 ≤ 2 ^ (i - min i (-1074)).toNat := Nat.one_le_two_pow
  generalize 2 ^ (i - min i (-1074)).toNat = P at *
  have : 0 < m * P := Nat.mul_pos (by omega) hp
  generalize m * P = q at *
  cases sb b <;> simp <;> omega
theorem fin_eq0 {b : Nat} (hb : b < 18446744073709551616) (h : b % 9223372036854775808 < 9218868437227405312) : (Ieee.double.order b 0 == some .eq) = decide (b % 9223372036854775808 = 0) := by
  obtain ⟨m, i, e, h1, h2, h3, h4⟩ := rd_fin hb h
  rw [show decide (b % 9223372036854775808 = 0) = decide (m = 0) from decide_eq_decide.2 h4.symm]
  unfold Ieee.Format.order
  rw [e, rd_zero]
  simp only [Ieee.Datum.order]
  rw [some_beq, cmp_eq, signed_eq, signed_eq, decide_eq_decide]
  have hp : 1 ≤ 2 ^ (i - min i (-1074)).toNat := Nat.one_le_two_pow
  generalize 2 ^ (i - min i (-1074)).toNat = P at *
  by_cases hm : m = 0
  · subst hm; simp
  · have : 0 < m * P := Nat.mul_pos (by omega) hp
    generalize m * P = q at *
    cases sb b <;> simp <;> omega
theorem zero_of {b : Nat} (hb : b < 18446744073709551616) (h : b % 9223372036854775808 = 0) : b = if sb b then 9223372036854775808 else 0 := by
  unfold sb
  have : b / 9223372036854775808 = 0 ∨ b / 9223372036854775808 = 1 := by omega
  rcases this with h | h <;> simp [h] <;> omega
theorem inv_pos : floatBits .quo .f64 4607182418800017408 0 = some 9218868437227405312 := by decide +kernel
theorem inv_neg : floatBits .quo .f64 4607182418800017408 9223372036854775808 = some 18442240474082181120 := by decide +kernel
theorem inv_pos_lt : (Ieee.double.order 9218868437227405312 0 == some .lt) = false := by decide +kernel
theorem inv_neg_lt : (Ieee.double.order 18442240474082181120 0 == some .lt) = true := by decide +kernel
/-! ### the other sign -/
theorem neg_eq {b : Nat} (hb : b < 18446744073709551616) : Op.negFloat .f64 b = if sb b then b - 9223372036854775808 else b + 9223372036854775808 := by
  have h1 : Op.negFloat .f64 b = b ^^^ 9223372036854775808 := rfl
  rw [h1]
  have : b / 9223372036854775808 = 0 ∨ b / 9223372036854775808 = 1 := by omega
  have hsplit : b = 2 ^ 63 * (b / 9223372036854775808) + b % 9223372036854775808 := by omega
  have hlt : b % 9223372036854775808 < 2 ^ 63 := by omega
  refine Nat.eq_of_testBit_eq fun i => ?_
  rw [Nat.testBit_xor, show (9223372036854775808 : Nat) = 2 ^ 63 by decide, Nat.testBit_two_pow]
  unfold sb
  rcases this with h | h
  · simp only [h, ne_eq, not_true_eq_false, decide_false, Bool.false_eq_true, if_false]
    have hb2 : b < 2 ^ 63 := by omega
    rw [show b + 2 ^ 63 = 2 ^ 63 + b by omega]
    by_cases hi : i = 63
    · subst hi
      rw [Nat.testBit_two_pow_add_eq]; simp
    · rcases Nat.lt_or_ge i 63 with hlt | hge
      · rw [Nat.testBit_two_pow_add_gt hlt]
        rw [decide_eq_false (by omega), Bool.xor_false]
      · have h2 : b.testBit i = false := Nat.testBit_lt_two_pow (Nat.lt_of_lt_of_le hb2 (Nat.pow_le_pow_right (by decide) hge))
        have h3 : (2 ^ 63 + b).testBit i = false := Nat.testBit_lt_two_pow (Nat.lt_of_lt_of_le (by omega : 2 ^ 63 + b < 2 ^ 64) (Nat.pow_le_pow_right (by decide) (by omega)))
        rw [h2, h3]
        rw [decide_eq_false (by omega), Bool.xor_false]
  · simp only [h, ne_eq, Nat.one_ne_zero, not_false_eq_true, decide_true, if_true]
    obtain ⟨c, rfl⟩ : ∃ c, b = 2 ^ 63 + c := ⟨b - 2 ^ 63, by omega⟩
    have hc : c < 2 ^ 63 := by omega
    rw [show 2 ^ 63 + c - 2 ^ 63 = c by omega]
    by_cases hi : i = 63
    · subst hi
      rw [Nat.testBit_two_pow_add_eq, Nat.testBit_lt_two_pow hc]; rfl
    · rcases Nat.lt_or_ge i 63 with hlt | hge
      · rw [Nat.testBit_two_pow_add_gt hlt]
        rw [decide_eq_false (by omega), Bool.xor_false]
      · have h2 : c.testBit i = false := Nat.testBit_lt_two_pow (Nat.lt_of_lt_of_le hc (Nat.pow_le_pow_right (by decide) hge))
        have h3 : (2 ^ 63 + c).testBit i = false := Nat.testBit_lt_two_pow (Nat.lt_of_lt_of_le (by omega : 2 ^ 63 + c < 2 ^ 64) (Nat.pow_le_pow_right (by decide) (by omega)))
        rw [h2, h3]
        rw [decide_eq_false (by omega), Bool.xor_false]
theorem neg_facts {b : Nat} (hb : b < 18446744073709551616) : Op.negFloat .f64 b < 18446744073709551616 ∧ Op.negFloat .f64 b % 9223372036854775808 = b % 9223372036854775808 ∧ sb (Op.negFloat .f64 b) = !sb b := by
  rw [neg_eq hb]
  have : b / 9223372036854775808 = 0 ∨ b / 9223372036854775808 = 1 := by omega
  unfold sb
  rcases this with h | h
  · simp only [h, ne_eq, not_true_eq_false, decide_false, Bool.false_eq_true, if_false]
    refine ⟨by omega, by omega, ?_⟩
    rw [show (b + 9223372036854775808) / 9223372036854775808 = 1 by omega]; rfl
  · simp only [h, ne_eq, Nat.one_ne_zero, not_false_eq_true, decide_true, if_true]
    refine ⟨by omega, by omega, ?_⟩
    rw [show (b - 9223372036854775808) / 9223372036854775808 = 0 by omega]; rfl
end Go.Proofs.Qxb6604548aDoor
