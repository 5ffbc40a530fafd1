import Derived.Test.Qxb6604188aDoorProg
import Derived.WalkKit
import Derived.WalkSpells
import Derived.WalkLawsBesides
import Derived.Deep.QuietTactic
import Derived.BigQuiet
namespace Go.Proofs.Qxb6604188aDoor
open Go.RowKit

def isDigZ (c : Int) : Bool := decide (48 ≤ c ∧ c ≤ 57)
def isLowZ (c : Int) : Bool := decide (97 ≤ c ∧ c ≤ 122)
def isLabZ (c : Int) : Bool := decide ((48 ≤ c ∧ c ≤ 57) ∨ (97 ≤ c ∧ c ≤ 122))
def isSepZ (c : Int) : Bool := decide (c = 45 ∨ c = 95 ∨ c = 46)

theorem ret_bool {a b : Bool} (h : a = b) : Ending.returned (.bool a) = .returned (.bool b) := by rw [h]
theorem ret_int {k : IntKind} {a b : Int} (h : a = b) : Ending.returned (.int k a) = .returned (.int k b) := by rw [h]

set_option maxHeartbeats 400000 in
theorem isDigitB1_any (c : Int) (w : World) : Calls Tryd.prog 20 #[.int .u8 c] w fun e w' => e = .returned (.bool (isDigZ c)) ∧ w' = w := by
  by_cases h1 : 48 ≤ c
  · by_cases h2 : c ≤ 57
    all_goals
      go_enter Tryd.func20, Tryd.ntmps20
      go_wp2
      go_ret
      exact ⟨ret_bool (by simp [isDigZ]; omega), rfl⟩
  · go_enter Tryd.func20, Tryd.ntmps20
    go_wp2
    go_ret
    exact ⟨ret_bool (by simp [isDigZ]; omega), rfl⟩

set_option maxHeartbeats 400000 in
theorem isDigit_any (c : Int) (w : World) : Calls Tryd.prog 22 #[.int .u8 c] w fun e w' => e = .returned (.bool (isDigZ c)) ∧ w' = w := by
  by_cases h1 : 48 ≤ c
  · by_cases h2 : c ≤ 57
    all_goals
      go_enter Tryd.func22, Tryd.ntmps22
      go_wp2
      go_ret
      exact ⟨ret_bool (by simp [isDigZ]; omega), rfl⟩
  · go_enter Tryd.func22, Tryd.ntmps22
    go_wp2
    go_ret
    exact ⟨ret_bool (by simp [isDigZ]; omega), rfl⟩

theorem isDigit_t (c : Int) (w : World) (h : isDigZ c = true) : Calls Tryd.prog 22 #[.int .u8 c] w fun e w' => e = .returned (.bool true) ∧ w' = w := by
  have := isDigit_any c w; rwa [h] at this
theorem isDigit_f (c : Int) (w : World) (h : isDigZ c = false) : Calls Tryd.prog 22 #[.int .u8 c] w fun e w' => e = .returned (.bool false) ∧ w' = w := by
  have := isDigit_any c w; rwa [h] at this

set_option maxHeartbeats 400000 in
theorem isLowerB1_any (c : Int) (w : World) : Calls Tryd.prog 21 #[.int .u8 c] w fun e w' => e = .returned (.bool (isLowZ c)) ∧ w' = w := by
  by_cases h1 : 97 ≤ c
  · by_cases h2 : c ≤ 122
    all_goals
      go_enter Tryd.func21, Tryd.ntmps21
      go_wp2
      go_ret
      exact ⟨ret_bool (by simp [isLowZ]; omega), rfl⟩
  · go_enter Tryd.func21, Tryd.ntmps21
    go_wp2
    go_ret
    exact ⟨ret_bool (by simp [isLowZ]; omega), rfl⟩

set_option maxHeartbeats 400000 in
theorem isLabelB1_any (c : Int) (w : World) : Calls Tryd.prog 13 #[.int .u8 c] w fun e w' => e = .returned (.bool (isLabZ c)) ∧ w' = w := by
  by_cases h1 : isDigZ c = true
  · go_enter Tryd.func13, Tryd.ntmps13
    go_wp2_with (first
      | (go_at_call 20; refine (isDigitB1_any _ _).mono ?_; rintro e w' ⟨rfl, rfl⟩)
      | (go_at_call 21; refine (isLowerB1_any _ _).mono ?_; rintro e w' ⟨rfl, rfl⟩))
    go_ret
    exact ⟨ret_bool (by simp [isDigZ] at h1; simp [isLabZ]; omega), rfl⟩
  · have h2 : isDigZ c = false := by simpa using h1
    clear h1
    go_enter Tryd.func13, Tryd.ntmps13
    go_wp2_with (first
      | (go_at_call 20; refine (isDigitB1_any _ _).mono ?_; rintro e w' ⟨rfl, rfl⟩)
      | (go_at_call 21; refine (isLowerB1_any _ _).mono ?_; rintro e w' ⟨rfl, rfl⟩))
    go_ret
    exact ⟨ret_bool (by simp [isDigZ] at h2; simp [isLabZ, isLowZ]; omega), rfl⟩

set_option maxHeartbeats 400000 in
theorem isSepB1_any (c : Int) (w : World) : Calls Tryd.prog 17 #[.int .u8 c] w fun e w' => e = .returned (.bool (isSepZ c)) ∧ w' = w := by
  go_enter Tryd.func17, Tryd.ntmps17
  go_wp2
  all_goals
    go_ret
    refine ⟨ret_bool ?_, rfl⟩
    rw [Bool.eq_iff_iff]; simp [isSepZ]; omega

theorem isLabelB1_t (c : Int) (w : World) (h : isLabZ c = true) : Calls Tryd.prog 13 #[.int .u8 c] w fun e w' => e = .returned (.bool true) ∧ w' = w := by
  have := isLabelB1_any c w; rwa [h] at this
theorem isLabelB1_f (c : Int) (w : World) (h : isLabZ c = false) : Calls Tryd.prog 13 #[.int .u8 c] w fun e w' => e = .returned (.bool false) ∧ w' = w := by
  have := isLabelB1_any c w; rwa [h] at this
theorem isSepB1_t (c : Int) (w : World) (h : isSepZ c = true) : Calls Tryd.prog 17 #[.int .u8 c] w fun e w' => e = .returned (.bool true) ∧ w' = w := by
  have := isSepB1_any c w; rwa [h] at this
theorem isSepB1_f (c : Int) (w : World) (h : isSepZ c = false) : Calls Tryd.prog 17 #[.int .u8 c] w fun e w' => e = .returned (.bool false) ∧ w' = w := by
  have := isSepB1_any c w; rwa [h] at this
end Go.Proofs.Qxb6604188aDoor
