import Derived.Test.Qxb6604548aDoorFq
namespace Go.Proofs.Qxb6604548aDoor
open Go.RowKit

theorem rep_dig (n : Nat) : allDig (List.replicate n 48) := fun c hc => by
  rw [(List.mem_replicate.1 hc).2]; rfl
theorem app_dig {a b : List UInt8} (ha : allDig a) (hb : allDig b) : allDig (a ++ b) := fun c hc => (List.mem_append.1 hc).elim (ha c) (hb c)
theorem f_parts {D : List UInt8} {dp : Int} (hD : D ≠ []) (hd : allDig D) : ∃ a f, Parts (fTxt D dp) a f [] := by
  have hl : 0 < D.length := List.length_pos_iff.2 hD
  unfold fTxt
  refine ⟨_, _, ⟨by rw [List.append_nil], ?_, ?_, ?_, .inl rfl⟩⟩
  · split
    · next hp =>
      intro h
      have := congrArg List.length h
      rw [List.length_append, List.length_take, List.length_replicate, List.length_nil] at this
      omega
    · simp
  · split
    · exact app_dig (fun c hc => hd c (List.mem_of_mem_take hc)) (rep_dig _)
    · exact fun c hc => by simp at hc; subst hc; rfl
  · split
    · refine .inr ⟨_, rfl, ?_, app_dig (rep_dig _) (fun c hc => hd c (List.mem_of_mem_drop hc))⟩
      intro h
      have := congrArg List.length h
      simp at this
      omega
    · exact .inl rfl
end Go.Proofs.Qxb6604548aDoor
