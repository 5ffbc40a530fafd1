import Derived.Test.Qxb6604277aDoorShelf
import Derived.Test.Qxb6604277aDoorA1
import Derived.WalkKit
import Derived.WalkSpells
import Derived.WalkLawsBesides
import Derived.Deep.QuietTactic
import Derived.BigQuiet
import Derived.Deep.OwnRows
import Derived.Deep.LoopGhost
import Derived.Deep.CutBlock
import Derived.Deep.DeepCutAuto
import Derived.Lib.SliceRun
namespace Go.Proofs.Qxb6604277aDoor
open Go.RowKit

theorem ret_bool {a b : Bool} (h : a = b) : Ending.returned (.bool a) = .returned (.bool b) := by rw [h]
theorem ret_int {k : IntKind} {a b : Int} (h : a = b) : Ending.returned (.int k a) = .returned (.int k b) := by rw [h]
theorem ba_eq {a b : ByteArray} (h : a.data.toList = b.data.toList) : a = b := by
  cases a with | mk a => cases b with | mk b => simp at h; rw [h]

/-- The first n cells behind 'ao' hold the strings S 0, S 1, .. -/
def Rd (w : World) (ao : Option Addr) (n : Nat) (S : Nat → ByteArray) : Prop :=
  ∀ k, k < n → ∃ b off, ao = some ⟨b, off, none⟩ ∧ w.cell? ⟨b, off + k, none⟩ = some (.string (S k))
theorem Rd.later {w w' : World} {ao : Option Addr} {n : Nat} {S : Nat → ByteArray} (h : Rd w ao n S) (hb : Below w.heap.size w w') : Rd w' ao n S := fun k hk => by
  obtain ⟨b, off, h1, h2⟩ := h k hk
  exact ⟨b, off, h1, cell_later hb h2⟩

def RetB (w : World) (e : Ending) (w' : World) : Prop := ∃ b : Bool, e = .returned (.bool b) ∧ w' = w
theorem retB_mk {w : World} {e : Ending} (b : Bool) (h : e = .returned (.bool b)) : RetB w e w := ⟨b, h, rfl⟩

set_option maxHeartbeats 1000000 in
theorem zzBytes6_any (a1 a2 : Option Addr) (n1 c1 n2 c2 : Nat) (S1 S2 : Nat → ByteArray) (i : Int) (w : World) (hn1 : n1 ≤ maxLen) (hn2 : n2 ≤ maxLen) (hS1 : ∀ k, k < n1 → (S1 k).size ≤ maxLen) (hS2 : ∀ k, k < n2 → (S2 k).size ≤ maxLen) (hr1 : Rd w a1 n1 S1) (hr2 : Rd w a2 n2 S2) :
    Calls Tryd.prog 6 #[.slice a1 n1 c1, .slice a2 n2 c2, .int .i64 i] w fun e w' => RetB w e w' := by
  unfold maxLen at hn1 hn2
  by_cases hbig : n1 ≤ 1048576
  · go_enter Tryd.func6, Tryd.ntmps6
    go_wp2_with fail
    go_loopg [7, 8] n1 (fun kk t ix wr => wr = w ∧ ∃ k : Nat, ∃ r : Int, kk = n1 - k ∧ k ≤ n1 ∧ ix = .int .i64 k ∧ t = .int .i64 r ∧ 0 ≤ r ∧ r ≤ 1048576)
    case atStart => exact ⟨rfl, 0, _, rfl, Nat.zero_le _, rfl, rfl, by omega, by omega⟩
    case round =>
      obtain ⟨rfl, k, r, rfl, hk, rfl, rfl, hq1, hq2⟩ := hrel
      by_cases hlt : k < n1
      · obtain ⟨b, off, rfl, hc⟩ := hr1 k hlt
        have hSk := hS1 k hlt
        unfold maxLen at hSk
        by_cases h1 : (S1 k).size ≤ 1048576
        · by_cases h2 : r + (S1 k).size ≤ 1048576
          · go_wp2
            go_roundg (n1 - (k + 1))
            case measure => omega
            case rel => exact ⟨rfl, k + 1, r + (S1 k).size, rfl, by omega, by go_num, rfl, by omega, by omega⟩
          · go_wp2
            go_ret
            exact retB_mk _ rfl
        · go_wp2
          go_ret
          exact retB_mk _ rfl
      · by_cases hbig2 : n2 ≤ 1048576
        · by_cases hsum : r + n2 ≤ 1048576
          · go_wp2_with fail
            go_loopg [7, 9] n2 (fun kk t ix wx => wx = wr ∧ ∃ k : Nat, ∃ r : Int, kk = n2 - k ∧ k ≤ n2 ∧ ix = .int .i64 k ∧ t = .int .i64 r ∧ 0 ≤ r ∧ r ≤ 1048576)
            case atStart => exact ⟨rfl, 0, _, rfl, Nat.zero_le _, rfl, rfl, by omega, by omega⟩
            case round =>
              obtain ⟨rfl, k2, r2, rfl, hk2, rfl, rfl, hq3, hq4⟩ := hrel
              by_cases hlt2 : k2 < n2
              · obtain ⟨b, off, rfl, hc⟩ := hr2 k2 hlt2
                have hSk := hS2 k2 hlt2
                unfold maxLen at hSk
                by_cases h1 : (S2 k2).size ≤ 1048576
                · by_cases h2 : r2 + (S2 k2).size ≤ 1048576
                  · go_wp2
                    go_roundg (n2 - (k2 + 1))
                    case measure => omega
                    case rel => exact ⟨rfl, k2 + 1, r2 + (S2 k2).size, rfl, by omega, by go_num, rfl, by omega, by omega⟩
                  · go_wp2
                    go_ret
                    exact retB_mk _ rfl
                · go_wp2
                  go_ret
                  exact retB_mk _ rfl
              · go_wp2
                go_ret
                exact retB_mk _ rfl
          · go_wp2
            go_ret
            exact retB_mk _ rfl
        · go_wp2
          go_ret
          exact retB_mk _ rfl
  · go_enter Tryd.func6, Tryd.ntmps6
    go_wp2
    go_ret
    exact retB_mk _ rfl

set_option maxHeartbeats 1000000 in
theorem zzBytes15_any (a1 a2 : Option Addr) (n1 c1 n2 c2 : Nat) (S1 S2 : Nat → ByteArray) (i : Int) (w : World) (hn1 : n1 ≤ maxLen) (hn2 : n2 ≤ maxLen) (hS1 : ∀ k, k < n1 → (S1 k).size ≤ maxLen) (hS2 : ∀ k, k < n2 → (S2 k).size ≤ maxLen) (hr1 : Rd w a1 n1 S1) (hr2 : Rd w a2 n2 S2) :
    Calls Tryd.prog 15 #[.slice a1 n1 c1, .slice a2 n2 c2, .int .i64 i] w fun e w' => RetB w e w' := by
  unfold maxLen at hn1 hn2
  by_cases hbig : n1 ≤ 1048576
  · go_enter Tryd.func15, Tryd.ntmps15
    go_wp2_with fail
    go_loopg [7, 8] n1 (fun kk t ix wr => wr = w ∧ ∃ k : Nat, ∃ r : Int, kk = n1 - k ∧ k ≤ n1 ∧ ix = .int .i64 k ∧ t = .int .i64 r ∧ 0 ≤ r ∧ r ≤ 1048576)
    case atStart => exact ⟨rfl, 0, _, rfl, Nat.zero_le _, rfl, rfl, by omega, by omega⟩
    case round =>
      obtain ⟨rfl, k, r, rfl, hk, rfl, rfl, hq1, hq2⟩ := hrel
      by_cases hlt : k < n1
      · obtain ⟨b, off, rfl, hc⟩ := hr1 k hlt
        have hSk := hS1 k hlt
        unfold maxLen at hSk
        by_cases h1 : (S1 k).size ≤ 1048576
        · by_cases h2 : r + (S1 k).size ≤ 1048576
          · go_wp2
            go_roundg (n1 - (k + 1))
            case measure => omega
            case rel => exact ⟨rfl, k + 1, r + (S1 k).size, rfl, by omega, by go_num, rfl, by omega, by omega⟩
          · go_wp2
            go_ret
            exact retB_mk _ rfl
        · go_wp2
          go_ret
          exact retB_mk _ rfl
      · by_cases hbig2 : n2 ≤ 1048576
        · by_cases hsum : r + n2 ≤ 1048576
          · go_wp2_with fail
            go_loopg [7, 9] n2 (fun kk t ix wx => wx = wr ∧ ∃ k : Nat, ∃ r : Int, kk = n2 - k ∧ k ≤ n2 ∧ ix = .int .i64 k ∧ t = .int .i64 r ∧ 0 ≤ r ∧ r ≤ 1048576)
            case atStart => exact ⟨rfl, 0, _, rfl, Nat.zero_le _, rfl, rfl, by omega, by omega⟩
            case round =>
              obtain ⟨rfl, k2, r2, rfl, hk2, rfl, rfl, hq3, hq4⟩ := hrel
              by_cases hlt2 : k2 < n2
              · obtain ⟨b, off, rfl, hc⟩ := hr2 k2 hlt2
                have hSk := hS2 k2 hlt2
                unfold maxLen at hSk
                by_cases h1 : (S2 k2).size ≤ 1048576
                · by_cases h2 : r2 + (S2 k2).size ≤ 1048576
                  · go_wp2
                    go_roundg (n2 - (k2 + 1))
                    case measure => omega
                    case rel => exact ⟨rfl, k2 + 1, r2 + (S2 k2).size, rfl, by omega, by go_num, rfl, by omega, by omega⟩
                  · go_wp2
                    go_ret
                    exact retB_mk _ rfl
                · go_wp2
                  go_ret
                  exact retB_mk _ rfl
              · go_wp2
                go_ret
                exact retB_mk _ rfl
          · go_wp2
            go_ret
            exact retB_mk _ rfl
        · go_wp2
          go_ret
          exact retB_mk _ rfl
  · go_enter Tryd.func15, Tryd.ntmps15
    go_wp2
    go_ret
    exact retB_mk _ rfl

/-- WHAT stringsBytes_b1 SAYS: past the ceiling one more than it; else the list and its strings are small. -/
def SB (n : Nat) (S : Nat → ByteArray) (w : World) (e : Ending) (w' : World) : Prop :=
  ∃ r : Int, e = .returned (.int .i64 r) ∧ 0 ≤ r ∧ r ≤ 1048577 ∧ (r ≤ 1048576 → n ≤ 65536 ∧ ∀ k, k < n → (S k).size ≤ 1048576) ∧ w' = w
theorem sb_big {n : Nat} {S : Nat → ByteArray} {w : World} {e : Ending} (h : e = .returned (.int .i64 1048577)) : SB n S w e w := ⟨_, h, by omega, by omega, fun h => absurd h (by omega), rfl⟩

set_option maxHeartbeats 400000 in
theorem stringsBytes_any (a1 : Option Addr) (n c1 : Nat) (S : Nat → ByteArray) (w : World) (hn : n ≤ maxLen) (hS : ∀ k, k < n → (S k).size ≤ maxLen) (hr : Rd w a1 n S) :
    Calls Tryd.prog 7 #[.slice a1 n c1] w fun e w' => SB n S w e w' := by
  unfold maxLen at hn
  by_cases hbig : n ≤ 65536
  · go_enter Tryd.func7, Tryd.ntmps7
    go_wp2_with fail
    go_loopg [3, 4] n (fun kk t ix wr => wr = w ∧ ∃ k : Nat, ∃ r : Int, kk = n - k ∧ k ≤ n ∧ ix = .int .i64 k ∧ t = .int .i64 r ∧ 0 ≤ r ∧ r ≤ 1048576 ∧ (∀ j, j < k → (S j).size ≤ 1048576))
    case atStart => exact ⟨rfl, 0, _, rfl, Nat.zero_le _, rfl, rfl, by omega, by omega, fun j hj => absurd hj (by omega)⟩
    case round =>
      obtain ⟨rfl, k, r, rfl, hk, rfl, rfl, hq1, hq2, hall⟩ := hrel
      have HA : Aside (∀ j, j < k → (S j).size ≤ 1048576) := hall
      clear hall
      by_cases hlt : k < n
      · obtain ⟨b, off, rfl, hc⟩ := hr k hlt
        have hSk := hS k hlt
        unfold maxLen at hSk
        by_cases h1 : (S k).size ≤ 1048576
        · by_cases h2 : r + (S k).size ≤ 1048576
          · go_wp2
            go_roundg (n - (k + 1))
            case measure => omega
            case rel =>
              refine ⟨rfl, k + 1, r + (S k).size, rfl, by omega, by go_num, rfl, by omega, by omega, fun j hj => ?_⟩
              by_cases e : j = k
              · rw [e]; exact h1
              · exact HA.out j (by omega)
          · go_wp2
            go_ret
            exact sb_big rfl
        · go_wp2
          go_ret
          exact sb_big rfl
      · obtain rfl : k = n := by omega
        go_wp2
        go_ret
        exact ⟨r, rfl, by omega, by omega, fun _ => ⟨hbig, HA.out⟩, rfl⟩
  · go_enter Tryd.func7, Tryd.ntmps7
    go_wp2
    go_ret
    exact sb_big rfl
end Go.Proofs.Qxb6604277aDoor
