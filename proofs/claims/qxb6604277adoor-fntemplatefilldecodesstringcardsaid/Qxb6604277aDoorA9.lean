import Derived.Test.Qxb6604277aDoorA8
namespace Go.Proofs.Qxb6604277aDoor
open Go.RowKit

/-- THE TEXT l DECODES TO o. -/
inductive Dec (L : ByteArray → ByteArray) : List UInt8 → List UInt8 → Prop
  | nil : Dec L [] []
  | one (c : UInt8) (t o : List UInt8) : (c = 36 → t.head? ≠ some 36) → Dec L t o → Dec L (c :: t) (c :: o)
  | two (t o : List UInt8) : Dec L t o → Dec L (36 :: 36 :: 36 :: 36 :: t) (36 :: 36 :: o)
  | name (v : ByteArray) (t o : List UInt8) : v.toList.isEmpty = false → IsNm v → Dec L t o → Dec L (36 :: 36 :: (v.data.toList ++ (36 :: 36 :: t))) ((L v).data.toList ++ o)

theorem esc_head (b : UInt8) (t : List UInt8) : (esc (b :: t)).head? = some b := by
  cases t with
  | nil => simp [esc]
  | cons c t =>
    rw [esc]
    split
    · next h => simp [h.1]
    · simp
theorem dec_esc (L : ByteArray → ByteArray) (r ro : List UInt8) (hr : Dec L r ro) : ∀ x : List UInt8, (r = [] ∨ x.getLast? ≠ some 36) → Dec L (esc x ++ r) (x ++ ro)
  | [], _ => by simpa [esc] using hr
  | [a], h => by
    rw [esc]
    refine .one a r ro (fun e => ?_) hr
    rcases h with rfl | h
    · simp
    · subst e; exact absurd rfl h
  | a :: b :: t, h => by
    rw [esc]
    split
    · next hh =>
      obtain ⟨rfl, rfl⟩ := hh
      refine .two _ _ (dec_esc L r ro hr t ?_)
      rcases h with h | h
      · exact .inl h
      · right
        intro e
        apply h
        rw [List.getLast?_cons, List.getLast?_cons, e]; rfl
    · next hh =>
      refine .one a _ _ (fun e => ?_) (dec_esc L r ro hr (b :: t) ?_)
      · show ((esc (b :: t)) ++ r).head? ≠ some 36
        rw [List.head?_append, esc_head]
        intro e2
        simp at e2
        exact hh ⟨e, e2⟩
      · rcases h with h | h
        · exact .inl h
        · right
          intro e
          apply h
          rw [List.getLast?_cons, e]; rfl

/-- parts n-d .. n-1 -/
def rso (X V : Nat → ByteArray) (n : Nat) : Nat → List UInt8
  | 0 => []
  | d + 1 => pOut (X (n - (d + 1))).data.toList (V (n - (d + 1))).data.toList ++ rso X V n d
def rfo (X V : Nat → ByteArray) (L : ByteArray → ByteArray) (n : Nat) : Nat → List UInt8
  | 0 => []
  | d + 1 => pFill (X (n - (d + 1))).data.toList (V (n - (d + 1))).data.toList (L (V (n - (d + 1)))).data.toList ++ rfo X V L n d
theorem so_rso (X V : Nat → ByteArray) (n : Nat) : ∀ d, d ≤ n → so X V (n - d) ++ rso X V n d = so X V n
  | 0, _ => by simp [rso]
  | d + 1, h => by
    rw [← so_rso X V n d (by omega), rso, ← List.append_assoc, show n - d = (n - (d + 1)) + 1 by omega, so]
theorem fo_rfo (X V : Nat → ByteArray) (L : ByteArray → ByteArray) (n : Nat) : ∀ d, d ≤ n → fo X V L (n - d) ++ rfo X V L n d = fo X V L n
  | 0, _ => by simp [rfo]
  | d + 1, h => by
    rw [← fo_rfo X V L n d (by omega), rfo, ← List.append_assoc, show n - d = (n - (d + 1)) + 1 by omega, fo]

/-- What decodable_b1 answers true on, up to k. -/
def DecOK (X V : Nat → ByteArray) (n k : Nat) : Prop := ∀ j, j < k → ((V j).toList.isEmpty = false → IsNm (V j)) ∧ ((V j).toList.isEmpty = true → j + 1 < n → (X j).data.toList.getLast? ≠ some 36)
theorem dec_rso (X V : Nat → ByteArray) (L : ByteArray → ByteArray) (n : Nat) (h : DecOK X V n n) : ∀ d, d ≤ n → Dec L (rso X V n d) (rfo X V L n d)
  | 0, _ => .nil
  | d + 1, hd => by
    have ih := dec_rso X V L n h d (by omega)
    have hj := h (n - (d + 1)) (by omega)
    rw [rso, rfo, pOut, pFill]
    cases hv : (V (n - (d + 1))).data.toList.isEmpty with
    | true =>
      rw [if_pos rfl, if_pos rfl]
      refine dec_esc L _ _ ih _ ?_
      cases d with
      | zero => exact .inl rfl
      | succ d => exact .inr (hj.2 (by rw [empty_eq, hv]) (by omega))
    | false =>
      rw [if_neg (by simp), if_neg (by simp)]
      have := Dec.name (L := L) (V (n - (d + 1))) _ _ (by rw [empty_eq, hv]) (hj.1 (by rw [empty_eq, hv])) ih
      simpa using this
theorem dec_so (X V : Nat → ByteArray) (L : ByteArray → ByteArray) (n : Nat) (h : DecOK X V n n) : Dec L (so X V n) (fo X V L n) := by
  have h1 := so_rso X V n n (Nat.le_refl _)
  have h2 := fo_rfo X V L n n (Nat.le_refl _)
  rw [Nat.sub_self] at h1 h2
  rw [← h1, ← h2]
  exact dec_rso X V L n h n (Nat.le_refl _)
end Go.Proofs.Qxb6604277aDoor
