import Derived.Test.Qxb6604548aDoorFd
import Derived.Test.Qxb6604548aDoorFf
import Derived.Test.Qxb6604548aDoorF7
namespace Go.Proofs.Qxb6604548aDoor
open Go.RowKit

theorem ext24 (b : Nat) (w : World) : (callFunc 24 #[.float .f64 b]).run Tryd.prog w = .ok (.value (.int .u64 (b : Int))) w := by
  rw [run_callFunc_extern (fn := Tryd.f24) (e := Extern.MathFloatBits.float64bits) Tryd.func24 (by kernel_rfl) (by kernel_rfl) (by kernel_rfl) (by kernel_rfl)]
  rfl
theorem expBits {b : Nat} (hb : b < 18446744073709551616) : bits .and .i64 ((b : Int) / 4503599627370496) 2047 = ((b / 4503599627370496 % 2048 : Nat) : Int) := by
  rw [show (b : Int) / 4503599627370496 = ((b / 4503599627370496 : Nat) : Int) by omega, show (2047 : Int) = ((2 ^ 11 - 1 : Nat) : Int) from rfl, and_i64 _ _ (by omega) (by decide), Nat.and_two_pow_sub_one_eq_mod]
theorem mantBits {b : Nat} (hb : b < 18446744073709551616) : bits .and .u64 (b : Int) 4503599627370495 = ((b % 4503599627370496 : Nat) : Int) := by
  rw [show (4503599627370495 : Int) = ((2 ^ 52 - 1 : Nat) : Int) from rfl, bits_and_u64_nat _ _ hb (by decide), Nat.and_two_pow_sub_one_eq_mod]
theorem orBits {t : Nat} (ht : t < 4503599627370496) : bits .or .u64 (t : Int) 4503599627370496 = ((t + 4503599627370496 : Nat) : Int) := by
  have e : t ||| 2 ^ 52 = t + 2 ^ 52 := by
    have := Nat.two_pow_add_eq_or_of_lt (i := 52) (b := t) ht 1
    rw [Nat.mul_one] at this
    rw [Nat.or_comm, ← this]
    omega
  rw [show (4503599627370496 : Int) = ((2 ^ 52 : Nat) : Int) from rfl, bits_or_u64_nat _ _ (by omega) (by decide), e]
theorem OG.drewN {w wr : World} {g0 : Nat} {l : List UInt8} {v : Value} (h : OG w g0 l v wr) (n : Nat) : OG w g0 l v (wr.drewN n) := by
  obtain ⟨⟨g, cap, h1, h2, h3⟩, h4⟩ := h
  exact ⟨⟨g, cap, h1, h2, h3⟩, ⟨h4.os, h4.tape, h4.output, h4.size, h4.block⟩⟩

/-- The mantissa moved up to bit 63. -/
theorem shiftUp {mant : Nat} (h1 : 1 ≤ mant) (h2 : mant < 9007199254740992) : ∃ s : Nat, 11 ≤ s ∧ s ≤ 63 ∧ (64 : Int) - (Lib.bitLen mant : Int) = (s : Int) ∧ 9223372036854775808 ≤ mant * 2 ^ s ∧ mant * 2 ^ s < 18446744073709551616 ∧ (4503599627370496 ≤ mant → s = 11) ∧ (mant < 4503599627370496 → 12 ≤ s) := by
  obtain ⟨b1, b2, b3⟩ := Lib.bitLenAux_bounds 64 mant (by omega) (by omega)
  have hL : Lib.bitLen mant = Lib.bitLenAux 64 mant := rfl
  generalize Lib.bitLenAux 64 mant = L at *
  have hL53 : L ≤ 53 := by
    rcases Nat.lt_or_ge 53 L with h | h
    · have : 2 ^ 53 ≤ 2 ^ (L - 1) := Nat.pow_le_pow_right (by decide) (by omega)
      omega
    · exact h
  have hA : 2 ^ (L - 1) * 2 ^ (64 - L) = 2 ^ 63 := by rw [← Nat.pow_add]; congr 1; omega
  have hB : 2 ^ L * 2 ^ (64 - L) = 2 ^ 64 := by rw [← Nat.pow_add]; congr 1; omega
  refine ⟨64 - L, by omega, by omega, by omega, ?_, ?_, fun h => ?_, fun h => ?_⟩
  · have := Nat.mul_le_mul_right (2 ^ (64 - L)) b2
    omega
  · have := (Nat.mul_lt_mul_right (Nat.two_pow_pos (64 - L))).2 b3
    omega
  · rcases Nat.lt_or_ge L 53 with h' | h'
    · have : 2 ^ L ≤ 2 ^ 52 := Nat.pow_le_pow_right (by decide) (by omega)
      omega
    · omega
  · rcases Nat.lt_or_ge 52 L with h' | h'
    · have : 2 ^ 52 ≤ 2 ^ (L - 1) := Nat.pow_le_pow_right (by decide) (by omega)
      omega
    · omega
end Go.Proofs.Qxb6604548aDoor
