import Derived.Test.Qxb6604548aDoorFk
namespace Go.Proofs.Qxb6604548aDoor
open Go.RowKit

/-- The text of the double whose bits are b, its sign aside. -/
def body (TH TL : Nat → Nat) (b : Nat) : List UInt8 :=
  if b / 4503599627370496 % 2048 = 0 then (if b % 4503599627370496 = 0 then [48] else fin TH TL (b % 4503599627370496) (-1022))
  else fin TH TL (b % 4503599627370496 + 4503599627370496) (((b / 4503599627370496 % 2048 : Nat) : Int) - 1023)
def FT (TH TL : Nat → Nat) (b : Nat) : List UInt8 :=
  if b / 4503599627370496 % 2048 = 2047 then spec (decide (b % 4503599627370496 ≠ 0)) (decide (b / 9223372036854775808 ≠ 0))
  else sgn (decide (b / 9223372036854775808 ≠ 0)) ++ body TH TL b
theorem ftoa_any (g0 : Nat) (b : Nat) (TH TL : Nat → Nat) (w : World) (hb : b < 18446744073709551616) (T : Tab TH TL w) (TO : THok TH) (TP : ∀ wx, Below w.heap.size w wx → Lib.TabIs Tryd.prog wx "internal/strconv.uint64pow10" .u64 Lib.pow10Tab) (hg0 : g0 < w.heap.size) (ho : w.ownsRow 0 5 1 (.slice (some ⟨g0, 0, none⟩) 0 24) 0 []) :
    Calls Tryd.prog 18 #[.slice (some ⟨g0, 0, none⟩) 0 24, .float .f64 b, .int .u8 103, .int .i64 (-1)] w fun e w' => RetG w g0 (FT TH TL b) e w' := by
  unfold FT body
  by_cases h1 : b / 4503599627370496 % 2048 = 2047
  · rw [if_pos h1]
    exact ftoa_X g0 b w hb h1 ho
  · rw [if_neg h1]
    by_cases h2 : b / 4503599627370496 % 2048 = 0
    · rw [if_pos h2]
      by_cases h3 : b % 4503599627370496 = 0
      · rw [if_pos h3]
        exact ftoa_0 g0 b _ w hb h2 h3 rfl ho
      · rw [if_neg h3]
        exact ftoa_S g0 b _ TH TL w hb _ h2 rfl (by omega) T TO TP hg0 rfl ho
    · rw [if_neg h2]
      exact ftoa_N g0 b _ TH TL w hb _ _ rfl rfl (by omega) h1 T TO TP hg0 rfl ho
end Go.Proofs.Qxb6604548aDoor
