import Derived.Test.Qxb6604548aDoorFn
namespace Go.Proofs.Qxb6604548aDoor
open Go.RowKit
theorem zzLiteral_any (b : Nat) (TH TL : Nat → Nat) (w : World) (hb : b < 18446744073709551616) (T : Tab TH TL w) (TO : THok TH) (TP : ∀ wx, Below w.heap.size w wx → Lib.TabIs Tryd.prog wx "internal/strconv.uint64pow10" .u64 Lib.pow10Tab)
    (hlen : (FT TH TL b).length ≤ 100) (hasc : ∀ c ∈ FT TH TL b, c.toNat < 128) :
    Calls Tryd.prog 5 #[.float .f64 b] w fun e w' => RetS w (lit (FT TH TL b)) e w' := by
  have HF := literal_any b TH TL w hb T TO TP hlen hasc
  clear T TP TO hlen hasc
  go_enter Tryd.func5, Tryd.ntmps5
  go_wp2_with fail
  refine HF.mono ?_
  rintro e w2 ⟨rfl, h2⟩
  have HB2 : Aside (Below w.heap.size w w2) := h2
  clear h2 HF
  go_wp2
  go_ret
  exact ⟨rfl, HB2.out⟩
end Go.Proofs.Qxb6604548aDoor
