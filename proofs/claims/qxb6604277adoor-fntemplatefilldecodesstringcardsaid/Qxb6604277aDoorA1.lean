import Derived.Lib.Replace
import Derived.Lib.Strings
import Derived.Lib.ReplaceLaws
namespace Go.Proofs.Qxb6604277aDoor

/-- Every pair of dollars, from the left, is doubled. -/
def esc : List UInt8 → List UInt8
  | [] => []
  | [a] => [a]
  | a :: b :: t => if a = 36 ∧ b = 36 then 36 :: 36 :: 36 :: 36 :: esc t else a :: esc (b :: t)

theorem esc_len : ∀ l : List UInt8, (esc l).length ≤ 2 * l.length
  | [] => by simp [esc]
  | [a] => by simp [esc]
  | a :: b :: t => by
    have h1 := esc_len t
    have h2 := esc_len (b :: t)
    rw [esc]
    split
    · simp at *; omega
    · simp at *; omega
theorem esc_other {a : UInt8} (t : List UInt8) (h : a ≠ 36) : esc (a :: t) = a :: esc t := by
  cases t with
  | nil => rfl
  | cons b t => rw [esc, if_neg (fun h' => h h'.1)]
theorem esc_two (t : List UInt8) : esc (36 :: 36 :: t) = 36 :: 36 :: 36 :: 36 :: esc t := by
  rw [esc, if_pos ⟨rfl, rfl⟩]
theorem esc_one {b : UInt8} (t : List UInt8) (h : b ≠ 36) : esc (36 :: b :: t) = 36 :: esc (b :: t) := by
  rw [esc, if_neg (fun h' => h h'.2)]

/-- A run of k dollars, then something else or nothing. -/
theorem esc_run : ∀ (k : Nat) (r : List UInt8), (∀ b ∈ r.head?, b ≠ 36) → esc (List.replicate k 36 ++ r) = List.replicate (2 * k - k % 2) 36 ++ esc r
  | 0, r, _ => by simp
  | 1, r, h => by
    cases r with
    | nil => rfl
    | cons b t => exact esc_one t (h b (by simp))
  | k + 2, r, h => by
    have ih := esc_run k r h
    have e : 2 * (k + 2) - (k + 2) % 2 = (2 * k - k % 2) + 4 := by omega
    rw [e]
    show esc (36 :: 36 :: (List.replicate k 36 ++ r)) = _
    rw [esc_two, ih]
    simp [List.replicate_succ]

open Go.Lib in
theorem replK_eq : ∀ (l : List UInt8), replaceK [36, 36] [36, 36, 36, 36] (count l [36, 36]) l = esc l
  | [] => by
    rw [count_miss (by rfl)]; rfl
  | [a] => by
    have : index [a] [36, 36] = -1 := by simp [index]
    rw [count_miss this]; rfl
  | a :: b :: t => by
    have ih1 := replK_eq t
    have ih2 := replK_eq (b :: t)
    by_cases h : a = 36 ∧ b = 36
    · obtain ⟨rfl, rfl⟩ := h
      have hi : index (36 :: 36 :: t) [36, 36] = ((0 : Nat) : Int) := by
        rw [index, if_pos (by simp)]; rfl
      rw [count_hit (by simp) hi, Nat.add_comm, replaceK_hit _ _ _ _ _ hi, esc_two]
      simpa using ih1
    · rw [esc, if_neg h]
      have hp : ¬ ([36, 36] : List UInt8).isPrefixOf (a :: b :: t) = true := by
        simp only [List.isPrefixOf, Bool.and_eq_true, beq_iff_eq]
        rintro ⟨h1, h2, _⟩
        exact h ⟨h1.symm, h2.symm⟩
      by_cases hm : index (b :: t) [36, 36] = -1
      · have hi : index (a :: b :: t) [36, 36] = -1 := by
          rw [index, if_neg hp, if_pos (by simp [hm])]
        rw [count_miss hi]
        rw [count_miss hm] at ih2
        rw [← ih2]; rfl
      · have hge := index_ge (b :: t) [36, 36]
        obtain ⟨i, hi⟩ : ∃ i : Nat, index (b :: t) [36, 36] = i := ⟨(index (b :: t) [36, 36]).toNat, by omega⟩
        have hi2 : index (a :: b :: t) [36, 36] = ((i + 1 : Nat) : Int) := by
          rw [index, if_neg hp, if_neg (by rw [hi]; simp), hi]; simp
        rw [count_hit (by simp) hi2, Nat.add_comm, replaceK_hit _ _ _ _ _ hi2]
        rw [count_hit (by simp) hi, Nat.add_comm, replaceK_hit _ _ _ _ _ hi] at ih2
        rw [← ih2]
        simp

open Go.Lib in
theorem replaceAll_eq (l : List UInt8) : replaceAll l [36, 36] [36, 36, 36, 36] = esc l := by
  rw [replaceAll, replace, if_neg (by decide), replaceNum, if_pos (Or.inl (by decide))]
  exact replK_eq l
open Go.Lib in
theorem countB_le (s : ByteArray) : countB s ⟨#[36, 36]⟩ ≤ s.size := by
  have := countB_mul_le ⟨#[36, 36]⟩ (by decide) s.size s (Nat.le_refl _)
  have e : (⟨#[36, 36]⟩ : ByteArray).size = 2 := by decide
  rw [e] at this; omega

/-! ### the parts -/
/-- What String writes of part (x, v). -/
def pOut (x v : List UInt8) : List UInt8 := if v.isEmpty then esc x else [36, 36] ++ (v ++ [36, 36])
/-- .. of the first k parts. -/
def so (X V : Nat → ByteArray) : Nat → List UInt8
  | 0 => []
  | k + 1 => so X V k ++ pOut (X k).data.toList (V k).data.toList
theorem pOut_len (x v : List UInt8) (M : Nat) (hx : x.length ≤ M) (hv : v.length ≤ M) : (pOut x v).length ≤ 2 * M + 4 := by
  unfold pOut
  split
  · have := esc_len x; omega
  · simp; omega
theorem so_len (X V : Nat → ByteArray) (M : Nat) : ∀ k, (∀ j, j < k → (X j).size ≤ M ∧ (V j).size ≤ M) → (so X V k).length ≤ k * (2 * M + 4)
  | 0, _ => by simp [so]
  | k + 1, h => by
    have ih := so_len X V M k (fun j hj => h j (by omega))
    have hk := h k (by omega)
    have := pOut_len (X k).data.toList (V k).data.toList M (by rw [← Lib.size_eq]; exact hk.1) (by rw [← Lib.size_eq]; exact hk.2)
    rw [so, List.length_append, Nat.add_mul]; omega
end Go.Proofs.Qxb6604277aDoor
