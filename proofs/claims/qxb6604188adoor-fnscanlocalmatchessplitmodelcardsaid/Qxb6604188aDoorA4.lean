import Derived.Test.Qxb6604188aDoorA3
namespace Go.Proofs.Qxb6604188aDoor
open Go.RowKit

/-- The first n cells behind 'ao' hold the strings S 0, S 1, .. -/
def Rd (w : World) (ao : Option Addr) (n : Nat) (S : Nat → ByteArray) : Prop :=
  ∀ k, k < n → ∃ b off, ao = some ⟨b, off, none⟩ ∧ w.cell? ⟨b, off + k, none⟩ = some (.string (S k))

set_option maxHeartbeats 400000 in
theorem addB1_any (a b : Int) (w : World) : Calls Tryd.prog 7 #[.int .i64 a, .int .i64 b] w fun e w' => ∃ r : Int, e = .returned (.int .i64 r) ∧ 0 ≤ r ∧ r ≤ 2097152 ∧ w' = w := by
  by_cases h : (0 ≤ a ∧ a ≤ 1048576) ∧ (0 ≤ b ∧ b ≤ 1048576)
  · obtain ⟨⟨h1, h2⟩, h3, h4⟩ := h
    go_enter Tryd.func7, Tryd.ntmps7
    go_wp2
    go_ret
    exact ⟨a + b, rfl, by omega, by omega, rfl⟩
  · go_enter Tryd.func7, Tryd.ntmps7
    go_wp2
    all_goals first | (exfalso; omega) | (go_ret; exact ⟨1048577, rfl, by omega, by omega, rfl⟩)

set_option maxHeartbeats 400000 in
theorem addListB1_any (t0 : Int) (ao : Option Addr) (n c : Nat) (S : Nat → ByteArray) (w : World) (hn : n ≤ maxLen) (hr : Rd w ao n S) :
    Calls Tryd.prog 6 #[.int .i64 t0, .slice ao n c] w fun e w' => ∃ r : Int, e = .returned (.int .i64 r) ∧ w' = w := by
  unfold maxLen at hn
  by_cases hbig : n ≤ 1048576
  · go_enter Tryd.func6, Tryd.ntmps6
    go_wp2_with (go_at_call 7; refine (addB1_any _ _ _).mono ?_; rintro e w' ⟨r, rfl, hr1, hr2, rfl⟩)
    go_loop [0, 5] (fun t i => ∃ k : Nat, ∃ r : Int, k ≤ n ∧ i = .int .i64 k ∧ t = .int .i64 r) (fun _ i => n - (intOf i).toNat)
    case atStart => exact ⟨0, _, Nat.zero_le _, rfl, rfl⟩
    case round =>
      obtain ⟨k, r, hk, rfl, rfl⟩ := hrel
      by_cases hlt : k < n
      · obtain ⟨b, off, rfl, hc⟩ := hr k hlt
        by_cases hgt : 1048576 < r
        · go_wp2
          go_ret
          first | exact ⟨_, rfl, rfl⟩ | exact ⟨⟨_, rfl⟩, rfl⟩
        · go_wp2_with (go_at_call 7; refine (addB1_any _ _ _).mono ?_; rintro e w' ⟨r2, rfl, hr3, hr4, rfl⟩)
          go_round
          case rel => exact ⟨k + 1, r2, by omega, by go_num, rfl⟩
          case measure => simp [intOf]; omega
      · go_wp2
        go_ret
        first | exact ⟨_, rfl, rfl⟩ | exact ⟨⟨_, rfl⟩, rfl⟩
  · go_enter Tryd.func6, Tryd.ntmps6
    go_wp2
    go_ret
    first | exact ⟨_, rfl, rfl⟩ | exact ⟨⟨_, rfl⟩, rfl⟩

/-- What both byte counters say: a bool; where it is true the two lengths are small. -/
def Small (n m : Nat) (b : Bool) : Prop := b = true → n ≤ 1048576 ∧ m ≤ 1048576

def RetSmall (n m : Nat) (w : World) (e : Ending) (w' : World) : Prop := ∃ b : Bool, e = .returned (.bool b) ∧ Small n m b ∧ w' = w
theorem retSmall_f {n m : Nat} {w : World} {e : Ending} (h : e = .returned (.bool false)) : RetSmall n m w e w := ⟨false, h, (fun h => by cases h), rfl⟩
theorem retSmall_t {n m : Nat} {w : World} {e : Ending} (h : e = .returned (.bool true)) (hn : n ≤ 1048576) (hm : m ≤ 1048576) : RetSmall n m w e w := ⟨true, h, (fun _ => ⟨hn, hm⟩), rfl⟩

set_option maxHeartbeats 800000 in
theorem zzBytes12_any (ao : Option Addr) (n c : Nat) (S : Nat → ByteArray) (s : ByteArray) (i : Int) (w : World) (hn : n ≤ maxLen) (hs : s.size ≤ maxLen) (hS : ∀ k, k < n → (S k).size ≤ maxLen) (hr : Rd w ao n S) :
    Calls Tryd.prog 12 #[.slice ao n c, .string s, .int .i64 i] w fun e w' => RetSmall n s.size w e w' := by
  unfold maxLen at hn hs
  by_cases hbig : n ≤ 1048576
  · go_enter Tryd.func12, Tryd.ntmps12
    go_wp2
    go_loop [7, 8] (fun t i => ∃ k : Nat, ∃ r : Int, k ≤ n ∧ i = .int .i64 k ∧ t = .int .i64 r ∧ 0 ≤ r ∧ r ≤ 1048576) (fun _ i => n - (intOf i).toNat)
    case atStart => exact ⟨0, _, Nat.zero_le _, rfl, rfl, by omega, by omega⟩
    case round =>
      obtain ⟨k, r, hk, rfl, rfl, hr1, hr2⟩ := hrel
      by_cases hlt : k < n
      · obtain ⟨b, off, rfl, hc⟩ := hr k hlt
        have hSk := hS k hlt
        unfold maxLen at hSk
        by_cases h1 : (S k).size ≤ 1048576
        · by_cases h2 : r + (S k).size ≤ 1048576
          · go_wp2
            go_round
            case rel => exact ⟨k + 1, r + (S k).size, by omega, by go_num, rfl, by omega, by omega⟩
            case measure => simp [intOf]; omega
          · go_wp2
            go_ret
            exact retSmall_f rfl
        · go_wp2
          go_ret
          exact retSmall_f rfl
      · by_cases h1 : s.size ≤ 1048576
        · by_cases h2 : r + s.size ≤ 1048576
          · go_wp2
            go_ret
            exact retSmall_t rfl hbig h1
          · go_wp2
            go_ret
            exact retSmall_f rfl
        · go_wp2
          go_ret
          exact retSmall_f rfl
  · go_enter Tryd.func12, Tryd.ntmps12
    go_wp2
    go_ret
    exact retSmall_f rfl
set_option maxHeartbeats 800000 in
theorem zzBytes5_any (ao : Option Addr) (n c : Nat) (S : Nat → ByteArray) (s : ByteArray) (i : Int) (w : World) (hn : n ≤ maxLen) (hs : s.size ≤ maxLen) (hS : ∀ k, k < n → (S k).size ≤ maxLen) (hr : Rd w ao n S) :
    Calls Tryd.prog 5 #[.slice ao n c, .string s, .int .i64 i] w fun e w' => RetSmall n s.size w e w' := by
  unfold maxLen at hn hs
  by_cases hbig : n ≤ 1048576
  · go_enter Tryd.func5, Tryd.ntmps5
    go_wp2
    go_loop [7, 8] (fun t i => ∃ k : Nat, ∃ r : Int, k ≤ n ∧ i = .int .i64 k ∧ t = .int .i64 r ∧ 0 ≤ r ∧ r ≤ 1048576) (fun _ i => n - (intOf i).toNat)
    case atStart => exact ⟨0, _, Nat.zero_le _, rfl, rfl, by omega, by omega⟩
    case round =>
      obtain ⟨k, r, hk, rfl, rfl, hr1, hr2⟩ := hrel
      by_cases hlt : k < n
      · obtain ⟨b, off, rfl, hc⟩ := hr k hlt
        have hSk := hS k hlt
        unfold maxLen at hSk
        by_cases h1 : (S k).size ≤ 1048576
        · by_cases h2 : r + (S k).size ≤ 1048576
          · go_wp2
            go_round
            case rel => exact ⟨k + 1, r + (S k).size, by omega, by go_num, rfl, by omega, by omega⟩
            case measure => simp [intOf]; omega
          · go_wp2
            go_ret
            exact retSmall_f rfl
        · go_wp2
          go_ret
          exact retSmall_f rfl
      · by_cases h1 : s.size ≤ 1048576
        · by_cases h2 : r + s.size ≤ 1048576
          · go_wp2
            go_ret
            exact retSmall_t rfl hbig h1
          · go_wp2
            go_ret
            exact retSmall_f rfl
        · go_wp2
          go_ret
          exact retSmall_f rfl
  · go_enter Tryd.func5, Tryd.ntmps5
    go_wp2
    go_ret
    exact retSmall_f rfl
end Go.Proofs.Qxb6604188aDoor
