import Derived.Test.Qxb6604188aDoorA9
import Derived.Test.Qxb6604188aDoorP1
namespace Go.Proofs.Qxb6604188aDoor
open Go.RowKit

def strL (S : Nat → ByteArray) (n : Nat) : List Value := (List.range n).map fun k => .string (S k)
theorem strL_at (S : Nat → ByteArray) (n k : Nat) (h : k < n) : (strL S n)[k]? = some (.string (S k)) := by simp [strL, h]
theorem strL_len (S : Nat → ByteArray) (n : Nat) : (strL S n).length = n := by simp [strL]

/-- WHAT THE CLONE IS: full, its cells the strings, in new memory (or nil where the first is). -/
structure IsClone (w : World) (ao : Option Addr) (n : Nat) (S : Nat → ByteArray) (ao' : Option Addr) (w' : World) : Prop where
  olds : Olds w' ao' n (strL S n)
  rd : Rd w' ao' n S
  bel : Below w.heap.size w w'
  nil : ao'.isNone = ao.isNone
def ClonedA (w : World) (ao : Option Addr) (n : Nat) (S : Nat → ByteArray) (e : Ending) (w' : World) : Prop := ∃ ao', e = .returned (.slice ao' n n) ∧ IsClone w ao n S ao' w'

theorem clone_any (ao : Option Addr) (n c : Nat) (S : Nat → ByteArray) (w : World) (hn : n ≤ 1048576) (hr : Rd w ao n S) (hnil : ao = none → n = 0 ∧ c = 0) :
    Calls Tryd.prog 8 #[.slice ao n c] w fun e w' => ClonedA w ao n S e w' := by
  cases ao with
  | none =>
    obtain ⟨rfl, rfl⟩ := hnil rfl
    refine (clone_nil w).mono fun e w' ⟨he, hw⟩ => ?_
    subst hw
    exact ⟨none, he, ⟨by simp [strL], fun _ => rfl, fun a ha => by cases ha⟩, fun k hk => absurd hk (by omega), Below.refl _ _, rfl⟩
  | some a =>
    refine (clone_some a n c S w hn hr).mono fun e w' ⟨he, h1, h2, h3⟩ => ?_
    refine ⟨_, he, ⟨strL_len S n, (fun h => by cases h), fun a ha j u hj => ?_⟩, fun k hk => ⟨_, _, rfl, by rw [Nat.zero_add]; exact h1.cell hk⟩, h2, rfl⟩
    cases ha
    have hlt : j < n := by
      have := (List.getElem?_eq_some_iff.1 hj).1
      rwa [strL_len] at this
    rw [strL_at S n j hlt] at hj
    cases hj
    rw [Addr.add_lit, Nat.zero_add]
    exact h1.cell hlt

theorem getD_at {α : Type} {l : List α} {i : Nat} (d : α) (h : i < l.length) : l.getD i d = l[i] := by
  rw [List.getD_eq_getElem?_getD, List.getElem?_eq_getElem h]; rfl
/-- The strings of a slice that was n long, 'gs' appended. -/
def T (S : Nat → ByteArray) (n : Nat) (gs : List ByteArray) (k : Nat) : ByteArray := if k < n then S k else gs.getD (k - n) ByteArray.empty
theorem T_old {S : Nat → ByteArray} {n : Nat} {gs : List ByteArray} {k : Nat} (h : k < n) : T S n gs k = S k := if_pos h
theorem T_new {S : Nat → ByteArray} {n : Nat} {gs : List ByteArray} {k : Nat} (h : n ≤ k) (h2 : k < n + gs.length) : T S n gs k ∈ gs := by
  rw [T, if_neg (by omega), getD_at _ (by omega)]
  exact List.getElem_mem _

theorem cur_rd {w : World} {base : Nat} {ao : Option Addr} {n : Nat} {S : Nat → ByteArray} {v : Value} {gs : List ByteArray} (h : Cur w base ao n (strL S n) v (gs.map Value.string)) (hr : Rd w ao n S) :
    ∃ a c, v = .slice a (n + gs.length) c ∧ Rd w a (n + gs.length) (T S n gs) ∧ a.isNone = (ao.isNone && gs.isEmpty) := by
  rcases h with ⟨h0, rfl⟩ | ⟨h0, hown⟩
  · have : gs = [] := by simpa using h0
    subst this
    refine ⟨ao, n, by simp, fun k hk => ?_, by simp⟩
    simp only [List.length_nil, Nat.add_zero] at hk
    obtain ⟨b, off, h1, h2⟩ := hr k hk
    exact ⟨b, off, h1, by rw [T_old hk]; exact h2⟩
  · have hne : gs ≠ [] := by simpa using h0
    have hpos : 0 < gs.length := List.length_pos_iff.2 hne
    simp only [List.length_map] at hown
    have hown0 := hown
    rcases hown.2 with ⟨_, hz⟩ | ⟨g, cap, cur, rfl, _, _⟩
    · omega
    · refine ⟨some ⟨g, 0, none⟩, cap, rfl, fun k hk => ⟨g, 0, rfl, ?_⟩, ?_⟩
      · rw [Nat.zero_add]
        rw [hown0.cellAt k (by omega)]
        by_cases hkn : k < n
        · rw [List.getElem?_append_left (by rw [strL_len]; exact hkn), strL_at S n k hkn, T_old hkn]
        · rw [List.getElem?_append_right (by rw [strL_len]; omega), strL_len, T, if_neg hkn]
          rw [List.getElem?_map, List.getElem?_eq_getElem (by omega), getD_at _ (by omega)]
          rfl
      · cases gs with
        | nil => exact absurd rfl hne
        | cons a t => simp
end Go.Proofs.Qxb6604188aDoor
