import Derived.Test.Qxb6604548aDoorFo
namespace Go.Proofs.Qxb6604548aDoor
open Go.RowKit

def allDig (l : List UInt8) : Prop := ∀ c ∈ l, digB' c = true
where digB' (c : UInt8) : Bool := decide (48 ≤ c.toNat) && decide (c.toNat ≤ 57)
theorem dec_dig : ∀ (d : Nat), allDig (Lib.decDigits d) := by
  intro d
  induction d using Nat.strongRecOn with
  | ind d ih =>
    intro c hc
    by_cases h10 : d < 10
    · rw [Lib.decDigits, dif_pos h10] at hc
      simp at hc
      subst hc
      simp [allDig.digB', UInt8.toNat_ofNat']
      omega
    · rw [Lib.decDigits, dif_neg h10] at hc
      rcases List.mem_append.1 hc with hc | hc
      · exact ih (d / 10) (by omega) c hc
      · simp at hc
        subst hc
        simp [allDig.digB', UInt8.toNat_ofNat']
        omega
theorem trim_dig {l : List UInt8} (h : allDig l) : allDig (trimz l) := fun c hc => h c ((trimz_prefix l).subset hc)
end Go.Proofs.Qxb6604548aDoor
