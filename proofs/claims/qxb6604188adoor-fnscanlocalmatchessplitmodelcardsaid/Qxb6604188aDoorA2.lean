import Derived.Test.Qxb6604188aDoorA1
namespace Go.Proofs.Qxb6604188aDoor
open Go.RowKit

def digP (c : UInt8) : Bool := isDigZ c.toNat
def labP (c : UInt8) : Bool := isLabZ c.toNat
def sepP (c : UInt8) : Bool := isSepZ c.toNat
def allDig (l : List UInt8) : Bool := !l.isEmpty && l.all digP

theorem take_snoc (s : ByteArray) (k : Nat) (h : k < s.size) : s.data.toList.take (k + 1) = s.data.toList.take k ++ [s[k]] := by
  rw [List.take_succ_eq_append_getElem (by simpa using h)]; rfl
theorem all_at {s : ByteArray} {p : UInt8 → Bool} {k : Nat} (h : k < s.size) (ha : s.data.toList.all p = true) : p s[k] = true :=
  List.all_eq_true.1 ha _ (by have : s[k] = s.data.toList[k]'(by simpa using h) := rfl
                              rw [this]; exact List.getElem_mem _)
theorem not_all {s : ByteArray} {p : UInt8 → Bool} {k : Nat} (h : k < s.size) (hn : p s[k] = false) : s.data.toList.all p = false := by
  cases hc : s.data.toList.all p with
  | false => rfl
  | true => rw [all_at h hc] at hn; cases hn
theorem all_take_snoc {s : ByteArray} {p : UInt8 → Bool} {k : Nat} (h : k < s.size) (ha : (s.data.toList.take k).all p = true) (hp : p s[k] = true) : (s.data.toList.take (k + 1)).all p = true := by
  rw [take_snoc s k h, List.all_append, ha]; simp [hp]
theorem not_t {b : Bool} (h : (!b) = true) : b = false := by simpa using h
theorem not_f {b : Bool} (h : (!b) = false) : b = true := by simpa using h
theorem dEmpty_iff (s : ByteArray) : s.data.toList.isEmpty = decide (s.size = 0) := by
  have e : s.size = s.data.toList.length := by simp
  rw [e, Bool.eq_iff_iff, List.isEmpty_iff, decide_eq_true_iff, List.length_eq_zero_iff]
theorem empty_iff (s : ByteArray) : s.toList.isEmpty = decide (s.size = 0) := by
  rw [ByteArray.toList_eq]; exact dEmpty_iff s

set_option maxHeartbeats 400000 in
theorem allDigitsB1_any (s : ByteArray) (w : World) (hs : s.size ≤ maxLen) :
    Calls Tryd.prog 14 #[.string s] w fun e w' => e = .returned (.bool (allDig s.data.toList)) ∧ w' = w := by
  unfold maxLen at hs
  by_cases h0 : s.size = 0
  · have hE : s.toList.isEmpty = true := by rw [empty_iff]; simp [h0]
    go_enter Tryd.func14, Tryd.ntmps14
    go_wp2
    go_ret
    exact ⟨ret_bool (by rw [allDig, dEmpty_iff]; simp [h0]), rfl⟩
  have hE : s.toList.isEmpty = false := by rw [empty_iff]; simp [h0]
  go_enter Tryd.func14, Tryd.ntmps14
  go_wp2
  go_loop [3] (fun i => ∃ k : Nat, k ≤ s.size ∧ i = .int .i64 k ∧ (s.data.toList.take k).all digP = true) (fun i => s.size - (intOf i).toNat)
  case atStart => exact ⟨0, Nat.zero_le _, rfl, rfl⟩
  case round =>
    obtain ⟨k, hk, rfl, hall⟩ := hrel
    have HA : Hid ((s.data.toList.take k).all digP = true) := hall
    clear hall
    by_cases hlt : k < s.size
    · go_wp2_with (go_at_call 20; refine (isDigitB1_any _ _).mono ?_; rintro e w' ⟨rfl, rfl⟩)
      · have hd : isDigZ (s[k].toNat) = false := not_t (by assumption)
        go_ret
        exact ⟨ret_bool (by rw [allDig, not_all hlt (show digP s[k] = false from hd)]; simp), rfl⟩
      · have hd : isDigZ (s[k].toNat) = true := not_f (by assumption)
        go_round
        case rel => exact ⟨k + 1, by omega, by go_num, all_take_snoc hlt HA.out hd⟩
        case measure => simp [intOf]; omega
    · go_wp2
      go_ret
      refine ⟨ret_bool ?_, rfl⟩
      have hA := HA.out
      rw [List.take_of_length_le (by simp; omega)] at hA
      rw [allDig, hA, dEmpty_iff]; simp [h0]

set_option maxHeartbeats 400000 in
theorem isNumber_any (s : ByteArray) (w : World) (hs : s.size ≤ maxLen) :
    Calls Tryd.prog 23 #[.string s] w fun e w' => e = .returned (.bool (allDig s.data.toList)) ∧ w' = w := by
  unfold maxLen at hs
  go_enter Tryd.func23, Tryd.ntmps23
  go_wp2
  go_loop [3] (fun i => ∃ k : Nat, k ≤ s.size ∧ i = .int .i64 k ∧ (s.data.toList.take k).all digP = true) (fun i => s.size - (intOf i).toNat)
  case atStart => exact ⟨0, Nat.zero_le _, rfl, rfl⟩
  case round =>
    obtain ⟨k, hk, rfl, hall⟩ := hrel
    have HA : Hid ((s.data.toList.take k).all digP = true) := hall
    clear hall
    by_cases hlt : k < s.size
    · go_wp2_with (go_at_call 22; refine (isDigit_any _ _).mono ?_; rintro e w' ⟨rfl, rfl⟩)
      · have hd : isDigZ (s[k].toNat) = false := not_t (by assumption)
        go_ret
        exact ⟨ret_bool (by rw [allDig, not_all hlt (show digP s[k] = false from hd)]; simp), rfl⟩
      · have hd : isDigZ (s[k].toNat) = true := not_f (by assumption)
        go_round
        case rel => exact ⟨k + 1, by omega, by go_num, all_take_snoc hlt HA.out hd⟩
        case measure => simp [intOf]; omega
    · go_wp2
      go_ret
      refine ⟨ret_bool ?_, rfl⟩
      have hA := HA.out
      rw [List.take_of_length_le (by simp; omega)] at hA
      rw [allDig, hA, dEmpty_iff, empty_iff]; simp

/-! ### countSepsB1 -/
def cntSep (l : List UInt8) : Nat := l.countP sepP
theorem cnt_snoc (s : ByteArray) (k : Nat) (h : k < s.size) : cntSep (s.data.toList.take (k + 1)) = cntSep (s.data.toList.take k) + if sepP s[k] then 1 else 0 := by
  rw [take_snoc s k h]; simp [cntSep, List.countP_append]
theorem cnt_le (l : List UInt8) : cntSep l ≤ l.length := List.countP_le_length

set_option maxHeartbeats 400000 in
theorem countSepsB1_any (s : ByteArray) (w : World) (hs : s.size ≤ maxLen) :
    Calls Tryd.prog 16 #[.string s] w fun e w' => e = .returned (.int .i64 (cntSep s.data.toList)) ∧ w' = w := by
  unfold maxLen at hs
  go_enter Tryd.func16, Tryd.ntmps16
  go_wp2
  go_loop [3, 4] (fun c i => ∃ k : Nat, ∃ n : Nat, k ≤ s.size ∧ i = .int .i64 k ∧ c = .int .i64 n ∧ n ≤ k ∧ cntSep (s.data.toList.take k) = n) (fun _ i => s.size - (intOf i).toNat)
  case atStart => exact ⟨0, 0, Nat.zero_le _, rfl, rfl, Nat.le_refl _, rfl⟩
  case round =>
    obtain ⟨k, n, hk, rfl, rfl, hn, hcnt⟩ := hrel
    have HA : Hid (cntSep (s.data.toList.take k) = n) := hcnt
    clear hcnt
    by_cases hlt : k < s.size
    · go_wp2_with (go_at_call 17; refine (isSepB1_any _ _).mono ?_; rintro e w' ⟨rfl, rfl⟩)
      · have hd : isSepZ (s[k].toNat) = true := by assumption
        go_round
        case rel => exact ⟨k + 1, n + 1, by omega, by go_num, by go_num, by omega, by rw [cnt_snoc s k hlt, HA.out, if_pos (show sepP s[k] = true from hd)]⟩
        case measure => simp [intOf]; omega
      · have hd : isSepZ (s[k].toNat) = false := by assumption
        go_round
        case rel => exact ⟨k + 1, n, by omega, by go_num, by go_num, by omega, by rw [cnt_snoc s k hlt, HA.out, if_neg (by rw [show sepP s[k] = false from hd]; simp)]; simp⟩
        case measure => simp [intOf]; omega
    · go_wp2
      go_ret
      refine ⟨ret_int ?_, rfl⟩
      have hA := HA.out
      rw [List.take_of_length_le (by simp; omega)] at hA
      rw [hA]
end Go.Proofs.Qxb6604188aDoor
