import Derived.Test.Qxb6600795aDoorA6
namespace Go.Proofs.Qxb6600795aDoor
open Go.RowKit

def RetX (w : World) (m : Nat) (e : Ending) (w' : World) : Prop := e = .returned (.int .i64 (m : Int)) ∧ Below w.heap.size w w'
theorem sep_small {x : UInt8} (h : sepQ x = true) : x.toNat < 128 := by
  have hm : x ∈ seps := by simpa [sepQ] using h
  simp only [seps, List.mem_cons, List.not_mem_nil, or_false] at hm
  rcases hm with rfl | rfl | rfl | rfl | rfl | rfl <;> decide

set_option maxHeartbeats 1000000 in
set_option maxRecDepth 100000 in
theorem indexAny_any (g i n c m : Nat) (X : Nat → UInt8) (w : World) (hc : ∀ k, k ≤ m → w.cell? ⟨g, i + k, none⟩ = some (.int .u8 (X k).toNat)) (hn : 2 ≤ n) (hnb : n ≤ 1048577) (hm : m < n) (hno : ∀ k, k < m → sepQ (X k) = false ∧ (X k).toNat < 128) (hyes : sepQ (X m) = true) :
    Calls Tryd.prog 16 #[.slice (some ⟨g, i, none⟩) n c, .string sepB] w fun e w' => RetX w m e w' := by
  have HC : Aside (∀ k, k ≤ m → w.cell? ⟨g, i + k, none⟩ = some (.int .u8 (X k).toNat)) := hc
  have HN : Aside (∀ k, k < m → sepQ (X k) = false ∧ (X k).toNat < 128) := hno
  have HY : Aside (sepQ (X m) = true) := hyes
  clear hc hno hyes
  have hsz : sepB.size = 6 := by decide
  have hemp : sepB.toList.isEmpty = false := by rw [Lib.toList_data]; rfl
  have hs1 : ((sepB.size : Int) == 1) = false := by rw [hsz]; decide
  have hn1 : ((n : Int) == 1) = false := beq_eq_false_iff_ne.2 (by omega)
  have e17 := ext17
  go_enter Tryd.func16, Tryd.ntmps16
  by_cases h8 : n ≤ 8
  · have h8z : decide ((8 : Int) < (n : Int)) = false := decide_eq_false (by omega)
    go_wp2_with (go_at_call 19; refine (shouldUse_any _ _).mono ?_; rintro e w' ⟨rfl, hw⟩; rw [hw, h8z])
    go_loopg [11, 12] (m + 1) (fun kk _ ix wr => wr = w ∧ ∃ k : Nat, kk = m + 1 - k ∧ k ≤ m ∧ ix = .int .i64 k)
    case atStart => exact ⟨rfl, 0, rfl, Nat.zero_le _, rfl⟩
    case round =>
      obtain ⟨hw, k, rfl, hk, rfl⟩ := hrel
      subst hw
      have hcell := HC.out k hk
      have hkn : (k : Int) < (n : Int) := by omega
      have hfi := first_sepQ (X k)
      by_cases hlt : k < m
      · obtain ⟨hq, h128⟩ := HN.out k hlt
        rw [hq] at hfi
        have hneg : ¬ ((0 : Int) ≤ firstIdx sepB (X k)) := of_decide_eq_false hfi
        have h128z : ((X k).toNat : Int) < 128 := by omega
        clear hfi hq
        generalize X k = x at *
        go_wp2
        go_roundg (m + 1 - (k + 1))
        case measure => omega
        case rel => exact ⟨rfl, k + 1, rfl, by omega, by go_num⟩
      · obtain rfl : k = m := by omega
        have h128 := sep_small HY.out
        rw [HY.out] at hfi
        have hpos : ((0 : Int) ≤ firstIdx sepB (X k)) := of_decide_eq_true hfi
        have h128z : ((X k).toNat : Int) < 128 := by omega
        clear hfi HY HN HC
        generalize X k = x at *
        go_wp2
        go_ret
        exact ⟨rfl, Below.refl _ _⟩
  · have h8z : decide ((8 : Int) < (n : Int)) = true := decide_eq_true (by omega)
    have hz := zero37
    have hset := Lib.setCells_size seps
    have hsc := run_storeCells_new (P := Tryd.prog) (w.alloc (.cells (Lib.setCells seps) 37)) 37 (Array.replicate 256 (.bool false)) (Lib.setCells seps) (by rw [hset]; exact info37) (by rw [hset]; simp) (Lib.setCells_one _)
    have hbig : Below w.heap.size w ((w.alloc (.cells (Lib.setCells seps) 37)).alloc (.cells (Lib.setCells seps) 37)) := ((Below.refl _ _).alloc (Nat.le_refl _) _).alloc (by simp) _
    have hset2 : ∀ x : UInt8, ((w.alloc (.cells (Lib.setCells seps) 37)).alloc (.cells (Lib.setCells seps) 37)).cell? ⟨w.heap.size + 1, x.toNat, none⟩ = some (.bool (sepQ x)) := fun x => by
      have h1 := heap_alloc_new (w.alloc (.cells (Lib.setCells seps) 37)) (.cells (Lib.setCells seps) 37)
      have e : (w.alloc (.cells (Lib.setCells seps) 37)).heap.size = w.heap.size + 1 := by simp
      rw [e] at h1
      rw [cell_of_row _ (w.heap.size + 1) x.toNat (Lib.setCells seps) 37 (0, 0) h1, Lib.setCells_at]; rfl
    rw [show (w.alloc (Obj.cells (Lib.setCells seps) 37)).heap.size = w.heap.size + 1 by simp] at hsc
    have HBIG : Aside (Below w.heap.size w ((w.alloc (.cells (Lib.setCells seps) 37)).alloc (.cells (Lib.setCells seps) 37))) := hbig
    have HSET : Aside (∀ x : UInt8, ((w.alloc (.cells (Lib.setCells seps) 37)).alloc (.cells (Lib.setCells seps) 37)).cell? ⟨w.heap.size + 1, x.toNat, none⟩ = some (.bool (sepQ x))) := hset2
    clear hbig hset2
    go_wp2_with (first
      | (go_at_call 19; refine (shouldUse_any _ _).mono ?_; rintro e w' ⟨rfl, hw⟩; rw [hw, h8z])
      | (go_at_call 20; refine (makeSet_any _).mono ?_; rintro e w' ⟨rfl, hw⟩; rw [hw]))
    clear hsc
    generalize hW : (w.alloc (Obj.cells (Lib.setCells seps) 37)).alloc (Obj.cells (Lib.setCells seps) 37) = W at *
    clear hW
    go_loopg [62] (m + 1) (fun kk ix wr => wr = W ∧ ∃ k : Nat, kk = m + 1 - k ∧ k ≤ m ∧ ix = .int .i64 k)
    case atStart => exact ⟨rfl, 0, rfl, Nat.zero_le _, rfl⟩
    case round =>
      obtain ⟨hw, k, rfl, hk, rfl⟩ := hrel
      subst hw
      have hcell := cell_later HBIG.out (HC.out k hk)
      have hkn : (k : Int) < (n : Int) := by omega
      have hcx := HSET.out (X k)
      have hkn2 : k < n := by omega
      by_cases hlt : k < m
      · rw [(HN.out k hlt).1] at hcx
        generalize X k = x at *
        go_wp2_with (go_at_call 21; refine (contains_any _ x false _ hcx).mono ?_; rintro e w' ⟨rfl, hw⟩; rw [hw])
        go_roundg (m + 1 - (k + 1))
        case measure => omega
        case rel => exact ⟨rfl, k + 1, rfl, by omega, by go_num⟩
      · obtain rfl : k = m := by omega
        rw [HY.out] at hcx
        clear HY HN HC
        generalize X k = x at *
        go_wp2_with (go_at_call 21; refine (contains_any _ x true _ hcx).mono ?_; rintro e w' ⟨rfl, hw⟩; rw [hw])
        go_ret
        exact ⟨rfl, HBIG.out⟩
end Go.Proofs.Qxb6600795aDoor
