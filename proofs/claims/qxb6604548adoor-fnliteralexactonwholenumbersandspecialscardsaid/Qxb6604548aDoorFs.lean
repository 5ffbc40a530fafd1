import Derived.Test.Qxb6604548aDoorFr
import Derived.Test.Qxb6604548aDoorFc
namespace Go.Proofs.Qxb6604548aDoor
open Go.RowKit

theorem ba_get {l : List UInt8} {i : Nat} (h : i < l.length) : ∃ h' : i < (⟨l.toArray⟩ : ByteArray).size, (⟨l.toArray⟩ : ByteArray)[i] = l[i] := by
  refine ⟨by rw [Lib.size_eq]; simpa using h, ?_⟩
  rfl
theorem dg_at {l : List UInt8} {i : Nat} (h : i < l.length) (hd : allDig.digB' l[i] = true) : dgAt ⟨l.toArray⟩ i = true := by
  obtain ⟨h1, h2⟩ := ba_get h
  rw [dgAt_in h1, h2]
  exact hd
theorem dg_seg {p m q : List UInt8} (h : allDig m) {i : Nat} (h1 : p.length ≤ i) (h2 : i < p.length + m.length) : dgAt ⟨(p ++ (m ++ q)).toArray⟩ i = true := by
  have hl : i < (p ++ (m ++ q)).length := by simp; omega
  refine dg_at hl ?_
  rw [List.getElem_append_right h1, List.getElem_append_left (by omega)]
  exact h _ (List.getElem_mem _)
theorem at_seg {p q : List UInt8} {c : UInt8} : ∃ h : p.length < (⟨(p ++ c :: q).toArray⟩ : ByteArray).size, (⟨(p ++ c :: q).toArray⟩ : ByteArray)[p.length] = c := by
  have hl : p.length < (p ++ c :: q).length := by simp
  obtain ⟨h1, h2⟩ := ba_get hl
  refine ⟨h1, ?_⟩
  rw [h2, List.getElem_append_right (Nat.le_refl _)]
  simp
theorem at_seg' {l p q : List UInt8} {c : UInt8} {n : Nat} (hl : l = p ++ c :: q) (hn : n = p.length) : ∃ h : n < (⟨l.toArray⟩ : ByteArray).size, (⟨l.toArray⟩ : ByteArray)[n] = c := by
  subst hl hn
  exact at_seg
theorem dg_seg' {l p m q : List UInt8} (hl : l = p ++ (m ++ q)) (h : allDig m) {i : Nat} (h1 : p.length ≤ i) (h2 : i < p.length + m.length) : dgAt ⟨l.toArray⟩ i = true := by
  subst hl
  exact dg_seg h h1 h2
theorem lit3_of {l a f x : List UInt8} (h : Parts l a f x) (hs : f ≠ [] ∨ x ≠ []) : Lit3 ⟨l.toArray⟩ a.length (a.length + f.length) l.length := by
  obtain ⟨he, ha1, had, hf, hx⟩ := h
  have hll : l.length = a.length + (f.length + x.length) := by rw [he]; simp
  refine ⟨List.length_pos_iff.2 ha1, fun i hi => dg_seg' (p := []) (m := a) (q := f ++ x) (by simpa using he) had (by simp) (by simpa using hi), by omega, ?_, by omega, ?_, by rw [Lib.size_eq], ?_⟩
  · intro hlt
    rcases hf with rfl | ⟨t, rfl, ht, htd⟩
    · simp at hlt
    · have := List.length_pos_iff.2 ht
      refine ⟨by simp; omega, at_seg' (p := a) (q := t ++ x) (by simpa using he) rfl, fun i h1 h2 => dg_seg' (p := a ++ [46]) (m := t) (q := x) (by simpa using he) htd (by simpa using h1) (by simp at h2 ⊢; omega)⟩
  · intro hlt
    rcases hx with rfl | ⟨s, t, rfl, hs2, ht, htd⟩
    · simp at hll; omega
    · refine ⟨by simp at hll; omega, at_seg' (p := a ++ f) (q := s :: t) (by simpa using he) (by simp), ?_, fun i h1 h2 => dg_seg' (p := a ++ f ++ [101, s]) (m := t) (q := []) (by simpa using he) htd (by simp; omega) (by simp at hll ⊢; omega)⟩
      obtain ⟨h1, h2⟩ := at_seg' (l := l) (p := a ++ f ++ [101]) (q := t) (c := s) (n := a.length + f.length + 1) (by simpa using he) (by simp; omega)
      exact ⟨h1, hs2.imp (fun e => h2.trans e) (fun e => h2.trans e)⟩
  · rcases hs with h | h <;> have := List.length_pos_iff.2 h <;> omega

theorem ca_true {l : List UInt8} {c : UInt8} (hc : c = 46 ∨ c = 101) (h : c ∈ l) : Lib.containsAny l [46, 101] = true := by
  induction l with
  | nil => cases h
  | cons b l ih =>
    unfold Lib.containsAny Lib.indexAny
    by_cases hb : ([46, 101] : List UInt8).contains b = true
    · rw [if_pos hb]; rfl
    · rw [if_neg hb]
      have hm : c ∈ l := by
        rcases List.mem_cons.1 h with rfl | h
        · rcases hc with rfl | rfl <;> exact absurd rfl hb
        · exact h
      have := ih hm
      unfold Lib.containsAny at this
      have h2 := of_decide_eq_true this
      rw [if_neg (by simp; omega)]
      exact decide_eq_true (by omega)
theorem ca_false {l : List UInt8} (h : ∀ c ∈ l, c ≠ 46 ∧ c ≠ 101) : Lib.containsAny l [46, 101] = false := by
  unfold Lib.containsAny
  rw [Lib.indexAny_none (fun j b _ hb => by
    have := h b (List.mem_of_getElem? hb)
    simp [this.1, this.2])]
  rfl
theorem dig_not {c : UInt8} (h : allDig.digB' c = true) : c ≠ 46 ∧ c ≠ 101 := by
  refine ⟨?_, ?_⟩ <;> rintro rfl <;> cases h
/-- literal's text of digits, a point and digits, an exponent: it has a point or an exponent; a sign ahead changes nothing of it. -/
theorem lit_parts {l a f x : List UInt8} (h : Parts l a f x) : (∃ f', Parts (lit l) a f' x ∧ (f' ≠ [] ∨ x ≠ [])) ∧ lit (45 :: l) = 45 :: lit l := by
  by_cases hs : f ≠ [] ∨ x ≠ []
  · have hc : ∃ c, (c = 46 ∨ c = 101) ∧ c ∈ l := by
      rw [h.eq]
      rcases hs with hs | hs
      · rcases h.f1 with e | ⟨t, rfl, _⟩
        · exact absurd e hs
        · exact ⟨46, .inl rfl, by simp⟩
      · rcases h.x1 with e | ⟨s, t, rfl, _⟩
        · exact absurd e hs
        · exact ⟨101, .inr rfl, by simp⟩
    obtain ⟨c, hc1, hc2⟩ := hc
    have h1 := ca_true hc1 hc2
    have h2 := ca_true hc1 (List.mem_cons_of_mem 45 hc2)
    rw [lit, lit, if_pos h1, if_pos h2]
    exact ⟨⟨f, h, hs⟩, rfl⟩
  · have hf : f = [] := Classical.byContradiction fun e => hs (.inl e)
    have hx : x = [] := Classical.byContradiction fun e => hs (.inr e)
    subst hf hx
    have hl : l = a := by simpa using h.eq
    subst hl
    have h1 := ca_false (fun c hc => dig_not (h.ad c hc))
    have h2 : Lib.containsAny (45 :: l) [46, 101] = false := ca_false (fun c hc => by
      rcases List.mem_cons.1 hc with rfl | hc
      · exact ⟨by decide, by decide⟩
      · exact dig_not (h.ad c hc))
    rw [lit, lit, h1, h2]
    refine ⟨⟨[46, 48], ⟨by simp, h.a1, h.ad, .inr ⟨[48], rfl, by simp, fun c hc => by simp at hc; subst hc; rfl⟩, .inl rfl⟩, .inl (by simp)⟩, ?_⟩
    simp
end Go.Proofs.Qxb6604548aDoor
