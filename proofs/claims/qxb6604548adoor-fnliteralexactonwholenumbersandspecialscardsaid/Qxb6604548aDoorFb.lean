import Derived.Test.Qxb6604548aDoorF1
namespace Go.Proofs.Qxb6604548aDoor
open Go.RowKit

def digB (c : Nat) : Bool := decide (48 ≤ c) && decide (c ≤ 57)
theorem zzDigit_any (c : Nat) (w : World) : Calls Tryd.prog 9 #[.int .u8 c] w fun e w' => e = .returned (.bool (digB c)) ∧ w' = w := by
  go_enter Tryd.func9, Tryd.ntmps9
  by_cases h1 : 48 ≤ c
  · have e1 : (48 : Int) ≤ (c : Int) := by omega
    by_cases h2 : c ≤ 57
    · have e2 : (c : Int) ≤ 57 := by omega
      go_wp2
      go_ret
      exact ⟨by simp [digB, h1, h2], rfl⟩
    · have e2 : decide ((c : Int) ≤ 57) = false := by simp; omega
      go_wp2
      go_ret
      exact ⟨by rw [show digB c = false by (simp [digB]; omega)]; rfl, rfl⟩
  · have e1 : ¬ (48 : Int) ≤ (c : Int) := by omega
    go_wp2
    go_ret
    exact ⟨by rw [show digB c = false by (simp [digB]; omega)]; rfl, rfl⟩
theorem zzDigit_t {c : Nat} (h : digB c = true) (w : World) : Calls Tryd.prog 9 #[.int .u8 c] w fun e w' => e = .returned (.bool true) ∧ w' = w := by rw [← h]; exact zzDigit_any c w
theorem zzDigit_f {c : Nat} (h : digB c = false) (w : World) : Calls Tryd.prog 9 #[.int .u8 c] w fun e w' => e = .returned (.bool false) ∧ w' = w := by rw [← h]; exact zzDigit_any c w

/-- the byte at i is a digit. -/
def dgAt (s : ByteArray) (i : Nat) : Bool := if h : i < s.size then digB s[i].toNat else false
theorem dgAt_in {s : ByteArray} {i : Nat} (h : i < s.size) : dgAt s i = digB s[i].toNat := dif_pos h

def RB (b : Bool) (w : World) (e : Ending) (w' : World) : Prop := e = .returned (.bool b) ∧ w' = w
/-- digits, then at most a point and digits, then at most an exponent; a point or an exponent. -/
structure Lit3 (s : ByteArray) (n1 n2 n3 : Nat) : Prop where
  p1 : 1 ≤ n1
  d1 : ∀ i, i < n1 → dgAt s i = true
  le1 : n1 ≤ n2
  pt : n1 < n2 → n1 + 2 ≤ n2 ∧ (∃ h : n1 < s.size, s[n1] = 46) ∧ ∀ i, n1 + 1 ≤ i → i < n2 → dgAt s i = true
  le2 : n2 ≤ n3
  ex : n2 < n3 → n2 + 4 ≤ n3 ∧ (∃ h : n2 < s.size, s[n2] = 101) ∧ (∃ h : n2 + 1 < s.size, s[n2 + 1] = 43 ∨ s[n2 + 1] = 45) ∧ ∀ i, n2 + 2 ≤ i → i < n3 → dgAt s i = true
  all : n3 = s.size
  some' : n1 < n3
end Go.Proofs.Qxb6604548aDoor
