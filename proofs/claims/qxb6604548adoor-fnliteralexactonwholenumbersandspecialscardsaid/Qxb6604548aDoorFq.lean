import Derived.Test.Qxb6604548aDoorFp
namespace Go.Proofs.Qxb6604548aDoor
open Go.RowKit

/-- the words 'digits', 'a point and digits', 'an exponent'. -/
structure Parts (l a f x : List UInt8) : Prop where
  eq : l = a ++ (f ++ x)
  a1 : a ≠ []
  ad : allDig a
  f1 : f = [] ∨ ∃ t, f = 46 :: t ∧ t ≠ [] ∧ allDig t
  x1 : x = [] ∨ ∃ s t, x = 101 :: s :: t ∧ (s = 43 ∨ s = 45) ∧ 2 ≤ t.length ∧ allDig t
theorem dg_dig {m : Nat} (h : m < 10) : allDig.digB' (dg m) = true := by
  simp [allDig.digB', dg_nat h]; omega
theorem exp2_dig {n : Nat} (h : n < 1000) : allDig (exp2 n) ∧ 2 ≤ (exp2 n).length := by
  unfold exp2
  split
  · next h1 =>
    refine ⟨fun c hc => ?_, by simp⟩
    simp at hc
    rcases hc with rfl | rfl
    · rfl
    · exact dg_dig h1
  · split
    · next h1 h2 =>
      refine ⟨fun c hc => ?_, by simp⟩
      simp at hc
      rcases hc with rfl | rfl
      · exact dg_dig (by omega)
      · exact dg_dig (by omega)
    · next h1 h2 =>
      refine ⟨fun c hc => ?_, by simp⟩
      simp at hc
      rcases hc with rfl | rfl | rfl
      · exact dg_dig (by omega)
      · exact dg_dig (by omega)
      · exact dg_dig (by omega)
theorem e_parts {D : List UInt8} {n : Int} (hD : D ≠ []) (hd : allDig D) (hn : n.natAbs < 1000) : ∃ a f x, Parts (eTxt D n) a f x ∧ x ≠ [] := by
  obtain ⟨he1, he2⟩ := exp2_dig hn
  obtain ⟨sg, hsg, hs2⟩ : ∃ sg, (if n < 0 then [45] else [43] : List UInt8) = [sg] ∧ (sg = 43 ∨ sg = 45) := by
    split
    · exact ⟨45, rfl, .inr rfl⟩
    · exact ⟨43, rfl, .inl rfl⟩
  cases D with
  | nil => exact absurd rfl hD
  | cons d t =>
    have hd1 : allDig [d] := fun c hc => hd c (by simp at hc; simp [hc])
    cases t with
    | nil => exact ⟨[d], [], 101 :: sg :: exp2 n.natAbs, ⟨by simp [eTxt, mant, hsg], by simp, hd1, .inl rfl, .inr ⟨sg, _, rfl, hs2, he2, he1⟩⟩, by simp⟩
    | cons e t => exact ⟨[d], 46 :: e :: t, 101 :: sg :: exp2 n.natAbs, ⟨by simp [eTxt, mant, hsg], by simp, hd1, .inr ⟨_, rfl, by simp, fun c hc => hd c (by simp at hc ⊢; exact .inr hc)⟩, .inr ⟨sg, _, rfl, hs2, he2, he1⟩⟩, by simp⟩
end Go.Proofs.Qxb6604548aDoor
