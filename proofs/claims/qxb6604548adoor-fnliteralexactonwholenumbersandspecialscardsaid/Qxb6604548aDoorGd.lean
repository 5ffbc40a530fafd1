import Derived.Test.Qxb6604548aDoorFu
namespace Go.Proofs.Qxb6604548aDoor

theorem rd_nm {b ex mt : Nat} (hb : b < 18446744073709551616) (hex : b / 4503599627370496 % 2048 = ex) (hmt : b % 4503599627370496 = mt) (h1 : 1 ≤ ex) (h2 : ex < 2047) : Ieee.double.read b = .number (sb b) (mt + 4503599627370496) ((ex : Int) - 1075) := by
  have e1 : b % 9223372036854775808 / 4503599627370496 = ex := by omega
  have e2 : b % 9223372036854775808 % 4503599627370496 = mt := by omega
  rw [rd hb, if_neg (by omega), if_pos (by omega), e1, e2]
  congr 1
  · omega
  · omega
theorem rd_sub {b : Nat} (hb : b < 18446744073709551616) (hex : b / 4503599627370496 % 2048 = 0) : Ieee.double.read b = .number (sb b) (b % 4503599627370496) (-1074) := by
  rw [rd hb, if_pos (by omega), show b % 9223372036854775808 = b % 4503599627370496 by omega]
theorem rd_p53 : Ieee.double.read 4845873199050653696 = .number false 4503599627370496 1 := by decide +kernel
theorem rd_m53 : Ieee.double.read 14069245235905429504 = .number true 4503599627370496 1 := by decide +kernel
theorem in53 {b m : Nat} {i : Int} (h : Ieee.double.read b = .number (sb b) m i) (hm : m < 9007199254740992) (hi : i ≤ 0) : (Ieee.double.order b 14069245235905429504 == some .gt) = true ∧ (Ieee.double.order b 4845873199050653696 == some .lt) = true := by
  have hp : 2 ^ 1 ≤ 2 ^ (1 - i).toNat := Nat.pow_le_pow_right (by decide) (by omega)
  unfold Ieee.Format.order
  rw [h, rd_m53, rd_p53]
  simp only [Ieee.Datum.order]
  rw [some_beq, some_beq, cmp_gt, cmp_lt, decide_eq_true_eq, decide_eq_true_eq, signed_eq, signed_eq, signed_eq, Int.min_eq_left (by omega), Int.sub_self, Int.toNat_zero]
  generalize 2 ^ (1 - i).toNat = P at *
  have : 4503599627370496 * 2 ≤ 4503599627370496 * P := Nat.mul_le_mul_left _ hp
  cases sb b <;> simp <;> omega
theorem out53 {b m : Nat} {i : Int} (h : Ieee.double.read b = .number (sb b) m i) (hm : 4503599627370496 ≤ m) (hi : 1 ≤ i) : (Ieee.double.order b 14069245235905429504 == some .gt) = !sb b ∧ (sb b = false → (Ieee.double.order b 4845873199050653696 == some .lt) = false) := by
  have hp : 1 ≤ 2 ^ (i - 1).toNat := Nat.one_le_two_pow
  unfold Ieee.Format.order
  rw [h, rd_m53, rd_p53]
  simp only [Ieee.Datum.order]
  rw [some_beq, some_beq, cmp_gt, cmp_lt, signed_eq, signed_eq, signed_eq, Int.min_eq_right (by omega), Int.sub_self, Int.toNat_zero]
  generalize 2 ^ (i - 1).toNat = P at *
  have h2 : 4503599627370496 * 1 ≤ m * P := Nat.mul_le_mul hm hp
  generalize m * P = q at *
  cases sb b <;> simp <;> omega
theorem cut_zero (s : Bool) (m t : Nat) : Ieee.Toward.cut .zero s m t = m / 2 ^ t := by
  unfold Ieee.Toward.cut
  simp only [Bool.toNat_false, Nat.add_zero]
  rw [Nat.one_shiftLeft]
  rcases Nat.le_total t (m.log2 + 2) with h | h
  · rw [Nat.min_eq_left h]
  · rw [Nat.min_eq_right h]
    have h1 : m < 2 ^ (m.log2 + 1) := Nat.lt_log2_self
    have h2 : 2 ^ (m.log2 + 1) ≤ 2 ^ (m.log2 + 2) := Nat.pow_le_pow_right (by decide) (by omega)
    have h3 : 2 ^ (m.log2 + 2) ≤ 2 ^ t := Nat.pow_le_pow_right (by decide) h
    rw [Nat.div_eq_of_lt (by omega), Nat.div_eq_of_lt (by omega)]
/-- A number with its sign. -/
def sgnI (s : Bool) (n : Nat) : Int := if s then -(n : Int) else n
theorem toInt_of {b m : Nat} {t : Nat} (h : Ieee.double.read b = .number (sb b) m (-(t : Int))) (hm : m < 9007199254740992) : floatToIntVal .f64 b .i64 = some (sgnI (sb b) (m / 2 ^ t)) := by
  unfold floatToIntVal
  have h1 : (FloatKind.f64.decode b).toInt .zero = some (sgnI (sb b) (m / 2 ^ t)) := by
    show (Ieee.double.read b).toInt .zero = _
    rw [h]
    simp only [Ieee.Datum.toInt, Ieee.Datum.integral]
    rw [show (-(t : Int)).toNat = 0 by omega, Nat.shiftLeft_zero, Int.neg_neg, Int.toNat_natCast, cut_zero, signed_eq]
    unfold sgnI
    simp
  rw [h1]
  have h2 : m / 2 ^ t ≤ m := Nat.div_le_self _ _
  generalize m / 2 ^ t = q at *
  have h3 : IntKind.i64.min ≤ sgnI (sb b) q ∧ sgnI (sb b) q ≤ IntKind.i64.max := by
    rw [show IntKind.i64.min = -9223372036854775808 by decide, show IntKind.i64.max = 9223372036854775807 by decide]
    unfold sgnI
    split <;> omega
  exact if_pos h3
theorem ofInt_0 : floatOfInt .f64 0 = 0 := by decide +kernel
theorem ofInt_eq {s : Bool} {n t : Nat} (h1 : 4503599627370496 ≤ n * 2 ^ t) (h2 : n * 2 ^ t < 9007199254740992) (ht : t ≤ 52) : floatOfInt .f64 (sgnI s n) = (if s then 9223372036854775808 else 0) + ((1074 - t) * 4503599627370496 + n * 2 ^ t) := by
  have hn : 1 ≤ n := by
    rcases Nat.eq_zero_or_pos n with h | h
    · subst h; simp at h1
    · exact h
  have e1 : (sgnI s n).natAbs = n := by unfold sgnI; split <;> omega
  have e2 : decide (sgnI s n < 0) = s := by unfold sgnI; cases s <;> simp <;> omega
  have e52 : (4503599627370496 : Nat) = 2 ^ (52 - t) * 2 ^ t := by rw [← Nat.pow_add, show 52 - t + t = 52 by omega]
  have e53 : (9007199254740992 : Nat) = 2 ^ (52 - t + 1) * 2 ^ t := by rw [← Nat.pow_add, show 52 - t + 1 + t = 53 by omega]
  have hlog : n.log2 = 52 - t := by
    rw [Nat.log2_eq_iff (by omega)]
    rw [e52] at h1
    rw [e53] at h2
    exact ⟨Nat.le_of_mul_le_mul_right h1 (Nat.pow_pos (by decide)), Nat.lt_of_mul_lt_mul_right h2⟩
  show Ieee.double.nearest (decide (sgnI s n < 0)) (sgnI s n).natAbs 0 = _
  rw [e1, e2]
  unfold Ieee.Format.nearest
  rw [if_neg (by omega)]
  simp only
  rw [hlog]
  have hlast : max ((0 : Int) + ((52 - t : Nat) : Int) - (Ieee.double.fractionBits : Int)) Ieee.double.leastPlace = -(t : Int) := by
    rw [show (Ieee.double.fractionBits : Int) = 52 by decide, show Ieee.double.leastPlace = -1074 by decide]
    omega
  rw [hlast, show (0 - -(t : Int)).toNat = t by omega, show (-(t : Int) - 0).toNat = 0 by omega, Nat.shiftLeft_eq]
  have hcut : Ieee.Toward.cut .even s (n * 2 ^ t) 0 = n * 2 ^ t := by
    unfold Ieee.Toward.cut
    simp [Nat.mod_one]
  rw [hcut, show Ieee.double.leastPlace = -1074 by decide, show Ieee.double.binade = 4503599627370496 by decide, show Ieee.double.infRung = 9218868437227405312 by decide, show (-(t : Int) - -1074).toNat = 1074 - t by omega]
  rw [Nat.min_eq_left (by omega)]
  unfold Ieee.Format.word
  rw [show Ieee.double.signWeight = 9223372036854775808 by decide]
  cases s <;> simp
theorem sub_mod_ge {m t : Nat} (ht : t ≤ 52) (hm : 4503599627370496 ≤ m) : 4503599627370496 ≤ m - m % 2 ^ t ∧ m / 2 ^ t * 2 ^ t = m - m % 2 ^ t := by
  have e52 : (4503599627370496 : Nat) = 2 ^ (52 - t) * 2 ^ t := by rw [← Nat.pow_add, show 52 - t + t = 52 by omega]
  have h1 := Nat.div_add_mod m (2 ^ t)
  have h2 : 2 ^ (52 - t) ≤ m / 2 ^ t := by
    rw [Nat.le_div_iff_mul_le (Nat.pow_pos (by decide)), ← e52]; exact hm
  have h3 : 2 ^ (52 - t) * 2 ^ t ≤ m / 2 ^ t * 2 ^ t := Nat.mul_le_mul_right _ h2
  rw [Nat.mul_comm] at h1
  omega
/-- back and forth: x is whole, or not. -/
theorem back_nm {b ex mt t : Nat} (hb : b < 18446744073709551616) (hex : b / 4503599627370496 % 2048 = ex) (hmt : b % 4503599627370496 = mt) (ht : t ≤ 52) (he : ex + t = 1075) :
    (Ieee.double.order (floatOfInt .f64 (sgnI (sb b) ((mt + 4503599627370496) / 2 ^ t))) b == some .eq) = decide ((mt + 4503599627370496) % 2 ^ t = 0) := by
  obtain ⟨g1, g2⟩ := sub_mod_ge (m := mt + 4503599627370496) ht (by omega)
  have hmt2 : mt < 4503599627370496 := by omega
  rw [ofInt_eq (t := t) (by omega) (by omega) ht, g2]
  have hle : (mt + 4503599627370496) % 2 ^ t ≤ mt := by omega
  generalize (mt + 4503599627370496) % 2 ^ t = δ at *
  have hs : (if sb b then 9223372036854775808 else 0) = b / 9223372036854775808 * 9223372036854775808 := by
    have : b / 9223372036854775808 = 0 ∨ b / 9223372036854775808 = 1 := by omega
    unfold sb
    rcases this with h | h <;> simp [h]
  rw [hs]
  have hc : b / 9223372036854775808 * 9223372036854775808 + ((1074 - t) * 4503599627370496 + (mt + 4503599627370496 - δ)) = b - δ := by omega
  rw [hc]
  have hsb : sb (b - δ) = sb b := by unfold sb; rw [show (b - δ) / 9223372036854775808 = b / 9223372036854775808 by omega]
  have r1 := rd_nm hb hex hmt (by omega) (by omega)
  have r2 := rd_nm (b := b - δ) (ex := ex) (mt := mt - δ) (by omega) (by omega) (by omega) (by omega) (by omega)
  unfold Ieee.Format.order
  rw [r1, r2, hsb]
  simp only [Ieee.Datum.order]
  rw [some_beq, cmp_eq, signed_eq, signed_eq, Int.min_self, Int.sub_self, Int.toNat_zero, decide_eq_decide]
  cases sb b <;> simp <;> omega
theorem back_small {b m : Nat} {i : Int} (h : Ieee.double.read b = .number (sb b) m i) (hm : m ≠ 0) : (Ieee.double.order (floatOfInt .f64 (sgnI (sb b) 0)) b == some .eq) = false := by
  rw [show sgnI (sb b) 0 = 0 by unfold sgnI; split <;> rfl, ofInt_0]
  unfold Ieee.Format.order
  rw [h, rd_zero]
  simp only [Ieee.Datum.order]
  rw [some_beq, cmp_eq, signed_eq, signed_eq, decide_eq_false_iff_not]
  have hp : 1 ≤ 2 ^ (i - min (-1074) i).toNat := Nat.one_le_two_pow
  generalize 2 ^ (i - min (-1074) i).toNat = P at *
  have : 0 < m * P := Nat.mul_pos (by omega) hp
  generalize m * P = q at *
  cases sb b <;> simp <;> omega
theorem back_zero {b : Nat} (hb : b < 18446744073709551616) (h : b % 9223372036854775808 = 0) : (Ieee.double.order (floatOfInt .f64 (sgnI (sb b) 0)) b == some .eq) = true := by
  rw [show sgnI (sb b) 0 = 0 by unfold sgnI; split <;> rfl, ofInt_0, zero_of hb h]
  cases sb b <;> decide +kernel
end Go.Proofs.Qxb6604548aDoor
