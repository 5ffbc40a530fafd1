import Derived.Test.Qxb6604548aDoorF1
namespace Go.Proofs.Qxb6604548aDoor
open Go.RowKit

def RI (w : World) (k : IntKind) (n : Int) (e : Ending) (w' : World) : Prop := e = .returned (.int k n) ∧ w' = w
theorem skewed_any (x : Int) (w : World) (h : -3000 ≤ x ∧ x ≤ 3000) : Calls Tryd.prog 45 #[.int .i64 x] w fun e w' => RI w .i64 ((x * 631305 - 261663) / 2097152) e w' := by
  go_enter Tryd.func45, Tryd.ntmps45
  go_wp2
  go_ret
  exact ⟨rfl, rfl⟩
theorem log2_any (x : Int) (w : World) (h : -3000 ≤ x ∧ x ≤ 3000) : Calls Tryd.prog 47 #[.int .i64 x] w fun e w' => RI w .i64 ((x * 108853) / 32768) e w' := by
  go_enter Tryd.func47, Tryd.ntmps47
  go_wp2
  go_ret
  exact ⟨rfl, rfl⟩
theorem log10_any (x : Int) (w : World) (h : -3000 ≤ x ∧ x ≤ 3000) : Calls Tryd.prog 32 #[.int .i64 x] w fun e w' => RI w .i64 ((x * 78913) / 262144) e w' := by
  go_enter Tryd.func32, Tryd.ntmps32
  go_wp2
  go_ret
  exact ⟨rfl, rfl⟩
theorem bool2_any (b : Bool) (w : World) : Calls Tryd.prog 67 #[.bool b] w fun e w' => RI w .u64 (if b then 1 else 0) e w' := by
  go_enter Tryd.func67, Tryd.ntmps67
  cases b
  · go_wp2
    go_ret
    exact ⟨rfl, rfl⟩
  · go_wp2
    go_ret
    exact ⟨rfl, rfl⟩
theorem floor_any (u : Nat) (w : World) (h : u < 18446744073709551616) : Calls Tryd.prog 51 #[.int .u64 u] w fun e w' => RI w .u64 ((u / 4 : Nat) : Int) e w' := by
  go_enter Tryd.func51, Tryd.ntmps51
  go_wp2
  go_ret
  exact ⟨rfl, rfl⟩
theorem ceil_any (u : Nat) (w : World) : Calls Tryd.prog 50 #[.int .u64 u] w fun e w' => RI w .u64 (((u + 3) % 18446744073709551616 / 4 : Nat) : Int) e w' := by
  go_enter Tryd.func50, Tryd.ntmps50
  go_wp2
  go_ret
  exact ⟨rfl, rfl⟩
theorem and_one (x : Nat) (h : x < 18446744073709551616) : bits .and .u64 (x : Int) 1 = ((x % 2 : Nat) : Int) := by
  rw [show (1 : Int) = ((1 : Nat) : Int) from rfl, bits_and_u64_nat x 1 h (by decide), Nat.and_one_is_mod]
theorem round_any (u : Nat) (w : World) (h : u < 18446744073709551616) : Calls Tryd.prog 52 #[.int .u64 u] w fun e w' => RI w .u64 (((u + 1 + u / 4 % 2) % 18446744073709551616 / 4 : Nat) : Int) e w' := by
  have e1 : bits .and .u64 ((u : Int) / 4) 1 = ((u / 4 % 2 : Nat) : Int) := by
    rw [show (u : Int) / 4 = ((u / 4 : Nat) : Int) by omega]; exact and_one _ (by omega)
  generalize u / 4 % 2 = t at *
  go_enter Tryd.func52, Tryd.ntmps52
  go_wp2
  go_ret
  exact ⟨ret_int (by rw [IntKind.wrap_u64, IntKind.wrap_u64]; omega), rfl⟩
theorem nudge_any (u : Nat) (d : Int) (w : World) : Calls Tryd.prog 49 #[.int .u64 u, .int .i64 d] w fun e w' => RI w .u64 (((u : Int) + d) % 18446744073709551616) e w' := by
  go_enter Tryd.func49, Tryd.ntmps49
  go_wp2
  go_ret
  exact ⟨ret_int (by rw [IntKind.wrap_u64, IntKind.wrap_u64]; omega), rfl⟩

/-! ### prescale, uscale -/
def preW (w : World) (H L : Nat) (s : Int) : World := w.alloc (.cells #[.int .u64 H, .int .u64 L, .int .i64 s] 74)
theorem prescale_any (w : World) (e p lp : Int) (H L : Nat) (hp : -348 ≤ p ∧ p < 348) (he : -3000 ≤ e ∧ e ≤ 3000) (hlp : -3000 ≤ lp ∧ lp ≤ 3000)
    (hH : ∀ cs, (w.alloc (.cells cs 74)).cell? ⟨3, (p + 348).toNat * 2, none⟩ = some (.int .u64 H)) (hL : ∀ cs, (w.alloc (.cells cs 74)).cell? ⟨3, (p + 348).toNat * 2 + 1, none⟩ = some (.int .u64 L)) :
    Calls Tryd.prog 46 #[.pointer (some ⟨w.heap.size, 0, none⟩), .int .i64 e, .int .i64 p, .int .i64 lp] (w.alloc (.cells #[.int .u64 0, .int .u64 0, .int .i64 0] 74)) fun e1 w' => e1 = .returned (.tuple #[]) ∧ w' = preW w H L (-(e + lp + 3)) := by
  obtain ⟨k, hk⟩ : ∃ k : Nat, p = (k : Int) - 348 := ⟨(p + 348).toNat, by omega⟩
  subst hk
  rw [show ((k : Int) - 348 + 348).toNat = k by omega] at hH hL
  have hk2 : k < 696 := by omega
  go_enter Tryd.func46, Tryd.ntmps46
  go_wp2
  go_end0
  exact ⟨rfl, rfl⟩

end Go.Proofs.Qxb6604548aDoor
