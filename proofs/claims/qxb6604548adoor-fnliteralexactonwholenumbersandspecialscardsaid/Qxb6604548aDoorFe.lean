import Derived.Test.Qxb6604548aDoorF6
namespace Go.Proofs.Qxb6604548aDoor
open Go.RowKit

/-- shortFloat[float64], plainly. -/
def SF (TH TL : Nat → Nat) (m : Nat) (e : Int) : Nat × Int :=
  if m = 9223372036854775808 ∧ -1085 < e then sfT TH TL (-(((e + 11) * 631305 - 261663) / 2097152)) e (m / 2048 % 2) (m - 512) ((m + 1024) % 18446744073709551616) m
  else if -1085 ≤ e then sfT TH TL (-((e + 11) * 78913 / 262144)) e (m / 2048 % 2) (m - 1024) ((m + 1024) % 18446744073709551616) m
  else sfT TH TL 324 e (m / 2 ^ (-1074 - e).toNat % 2) (m - 2 ^ ((-1074 - e).toNat - 1)) ((m + 2 ^ ((-1074 - e).toNat - 1)) % 18446744073709551616) m
theorem sf_any (m : Nat) (e : Int) (TH TL : Nat → Nat) (w : World) (hm1 : 9223372036854775808 ≤ m) (hm2 : m < 18446744073709551616) (he : -1137 ≤ e ∧ e ≤ 960) (T : Tab TH TL w) :
    Calls Tryd.prog 37 #[.int .u64 m, .int .i64 e] w fun e1 w' => RSF w (SF TH TL m e) e1 w' := by
  unfold SF
  by_cases h1 : m = 9223372036854775808 ∧ -1085 < e
  · rw [if_pos h1]
    exact sf_A m e TH TL w hm1 hm2 h1.1 (by omega) T
  · rw [if_neg h1]
    by_cases h2 : -1085 ≤ e
    · rw [if_pos h2]
      by_cases h3 : m = 9223372036854775808
      · exact sf_D m e TH TL w hm1 hm2 h3 (fun h => h1 ⟨h3, h⟩) (by omega) T
      · exact sf_B m e TH TL w hm1 hm2 h3 (by omega) T
    · rw [if_neg h2]
      by_cases h3 : m = 9223372036854775808
      · exact sf_C m e TH TL w hm1 hm2 h3 (-1074 - e).toNat (by omega) (by omega) T
      · exact sf_E m e TH TL w hm1 hm2 h3 (-1074 - e).toNat (by omega) (by omega) T

theorem us2_ge {hi mid mid2 s : Nat} (h1 : 2305843009213693952 ≤ hi) (h2 : hi < 18446744073709551616) (hs : s ≤ 58) : 7 ≤ us2 hi mid mid2 s := by
  have hp : 2 ^ s ≤ 2 ^ 58 := Nat.pow_le_pow_right (by decide) hs
  have hpp : 0 < 2 ^ s := Nat.two_pow_pos s
  unfold us2
  split
  · refine Nat.le_trans ?_ Nat.left_le_or
    rw [Nat.le_div_iff_mul_le hpp]
    omega
  · refine Nat.le_trans ?_ Nat.left_le_or
    rw [Nat.le_div_iff_mul_le hpp]
    split <;> omega
theorem us2_lt {hi mid mid2 s : Nat} (h2 : hi < 18446744073709551616) (hs : 5 ≤ s) : us2 hi mid mid2 s < 1152921504606846976 := by
  have hp : 2 ^ 5 ≤ 2 ^ s := Nat.pow_le_pow_right (by decide) hs
  have key : ∀ x, x < 18446744073709551616 → x / 2 ^ s < 2 ^ 60 := fun x hx => by
    refine Nat.div_lt_of_lt_mul ?_
    calc x < 2 ^ 5 * 2 ^ 60 := by omega
      _ ≤ 2 ^ s * 2 ^ 60 := Nat.mul_le_mul_right _ hp
  unfold us2
  split
  · exact Nat.or_lt_two_pow (n := 60) (key _ h2) (by decide)
  · refine Nat.or_lt_two_pow (n := 60) (key _ (Nat.mod_lt _ (by decide))) ?_
    split <;> decide
theorem us_ge {x H L s : Nat} (hx : 4611686018427387904 ≤ x) (hx2 : x < 18446744073709551616) (hH : 9223372036854775808 ≤ H) (hH2 : H < 18446744073709551616) (hs : s ≤ 58) (hs5 : 5 ≤ s) : 7 ≤ us x H L s ∧ us x H L s < 1152921504606846976 := by
  have h2 : x * H / 18446744073709551616 < 18446744073709551616 := by
    rw [Nat.div_lt_iff_lt_mul (by decide)]
    exact Nat.mul_lt_mul'' hx2 hH2
  have h1 : 2305843009213693952 ≤ x * H / 18446744073709551616 := by
    rw [Nat.le_div_iff_mul_le (by decide)]
    calc 2305843009213693952 * 18446744073709551616 = 4611686018427387904 * 9223372036854775808 := by decide
      _ ≤ x * H := Nat.mul_le_mul hx hH
  exact ⟨us2_ge h1 h2 hs, us2_lt h2 hs5⟩
theorem sfC_pos {a b c : Nat} {p : Int} (ha : 1 ≤ a) (hc : 1 ≤ rnd c) : 1 ≤ (sfC a b c p).1 := by
  unfold sfC
  split
  · show 1 ≤ b / 10
    omega
  · split
    · exact hc
    · exact ha
theorem sfC_p {a b c : Nat} {p : Int} (h : -348 ≤ p ∧ p < 348) : -349 ≤ (sfC a b c p).2 ∧ (sfC a b c p).2 ≤ 350 := by
  unfold sfC
  split
  · show -349 ≤ -(p - 1) ∧ -(p - 1) ≤ 350
    omega
  · split
    · show -349 ≤ -p ∧ -p ≤ 350
      omega
    · show -349 ≤ -p ∧ -p ≤ 350
      omega
theorem rangeA5 (e : Int) (h : -1085 < e ∧ e ≤ 960) (p lp : Int) (hp : p = -(((e + 11) * 631305 - 261663) / 2097152)) (hlp : lp = p * 108853 / 32768) : 5 ≤ -(e + lp + 3) := by omega
theorem rangeB5 (e : Int) (h : -1085 ≤ e ∧ e ≤ 960) (p lp : Int) (hp : p = -((e + 11) * 78913 / 262144)) (hlp : lp = p * 108853 / 32768) : 5 ≤ -(e + lp + 3) := by omega
theorem rangeC5 (e : Int) (h : -1137 ≤ e ∧ e < -1085) (p lp : Int) (hp : p = 324) (hlp : lp = p * 108853 / 32768) : 5 ≤ -(e + lp + 3) ∧ -(e + lp + 3) ≤ 58 := by omega
end Go.Proofs.Qxb6604548aDoor
