import Derived.Test.Qxb6604548aDoorFs
namespace Go.Proofs.Qxb6604548aDoor
open Go.RowKit

theorem exp2_len (n : Nat) : (exp2 n).length ≤ 3 := by
  unfold exp2
  split
  · simp
  · split <;> simp
theorem mant_len1 (D : List UInt8) : (mant D).length ≤ D.length + 1 := by
  unfold mant
  split <;> simp
theorem eTxt_len (D : List UInt8) (n : Int) : (eTxt D n).length ≤ D.length + 6 := by
  have h1 := exp2_len n.natAbs
  have h2 := mant_len1 D
  unfold eTxt
  rw [List.length_append, List.length_append, List.length_append, List.length_singleton]
  split <;> simp <;> omega
theorem fTxt_len (D : List UInt8) {dp : Int} (h1 : -3 ≤ dp) (h2 : dp ≤ 6) : (fTxt D dp).length ≤ 2 * D.length + 20 := by
  unfold fTxt
  rw [List.length_append]
  split <;> split <;> simp <;> omega
theorem parts_asc {l a f x : List UInt8} (h : Parts l a f x) : ∀ c ∈ l, c.toNat < 128 := by
  have hd : ∀ {t : List UInt8}, allDig t → ∀ c ∈ t, c.toNat < 128 := fun ht c hc => by
    have := ht c hc
    simp [allDig.digB'] at this
    omega
  intro c hc
  rw [h.eq] at hc
  rcases List.mem_append.1 hc with hc | hc
  · exact hd h.ad c hc
  · rcases List.mem_append.1 hc with hc | hc
    · rcases h.f1 with rfl | ⟨t, rfl, _, ht⟩
      · cases hc
      · rcases List.mem_cons.1 hc with rfl | hc
        · decide
        · exact hd ht c hc
    · rcases h.x1 with rfl | ⟨s, t, rfl, hs, _, ht⟩
      · cases hc
      · rcases List.mem_cons.1 hc with rfl | hc
        · decide
        · rcases List.mem_cons.1 hc with rfl | hc
          · rcases hs with rfl | rfl <;> decide
          · exact hd ht c hc
theorem g_parts {D : List UInt8} {dp : Int} (hD : D ≠ []) (hd : allDig D) (h1 : -900 ≤ dp) (h2 : dp ≤ 900) (hl : D.length ≤ 20) : ∃ a f x, Parts (gTxt D dp) a f x ∧ (gTxt D dp).length ≤ 90 := by
  unfold gTxt
  rw [if_neg hD]
  split
  · obtain ⟨a, f, x, hp, _⟩ := e_parts (n := dp - 1) hD hd (by omega)
    have := eTxt_len D (dp - 1)
    exact ⟨a, f, x, hp, by omega⟩
  · obtain ⟨a, f, hp⟩ := f_parts (dp := dp) hD hd
    have := fTxt_len D (dp := dp) (by omega) (by omega)
    exact ⟨a, f, [], hp, by omega⟩
theorem fin_parts {TH TL : Nat → Nat} (TO : THok TH) {mant : Nat} {xp : Int} (h1 : 1 ≤ mant) (h2 : mant < 9007199254740992) (h3 : -1022 ≤ xp) (h4 : xp ≤ 1023) : ∃ a f x, Parts (fin TH TL mant xp) a f x ∧ (fin TH TL mant xp).length ≤ 90 := by
  obtain ⟨s, hs1, hs2, hs3, hs4, hs5, _⟩ := shiftUp h1 h2
  unfold fin
  simp only
  rw [hs3, Int.toNat_natCast]
  obtain ⟨d1, d2, d3, d4⟩ := SF_ok (TL := TL) TO hs4 hs5 (e := xp - s - 52) (by omega)
  generalize SF TH TL (mant * 2 ^ s) (xp - s - 52) = r at *
  have hp := trim_pos d1
  have hn := nDig_le d1 d2
  have hl := trimz_le (Lib.decDigits r.1)
  rw [Lib.decDigits_length] at hl
  exact g_parts (List.length_pos_iff.1 hp) (trim_dig (dec_dig _)) (by omega) (by omega) (by omega)
theorem body_parts {TH TL : Nat → Nat} (TO : THok TH) {b : Nat} (h : b / 4503599627370496 % 2048 ≠ 2047) : ∃ a f x, Parts (body TH TL b) a f x ∧ (body TH TL b).length ≤ 90 := by
  unfold body
  split
  · split
    · exact ⟨[48], [], [], ⟨rfl, by simp, fun c hc => by simp at hc; subst hc; rfl, .inl rfl, .inl rfl⟩, by simp⟩
    · exact fin_parts TO (by omega) (by omega) (by omega) (by omega)
  · exact fin_parts TO (by omega) (by omega) (by omega) (by omega)
theorem FT_fine {TH TL : Nat → Nat} (TO : THok TH) (b : Nat) : (FT TH TL b).length ≤ 100 ∧ ∀ c ∈ FT TH TL b, c.toNat < 128 := by
  unfold FT
  split
  · generalize decide (b % 4503599627370496 ≠ 0) = x
    generalize decide (b / 9223372036854775808 ≠ 0) = y
    revert x y
    unfold spec
    decide
  · next h =>
    obtain ⟨a, f, x, hp, hl⟩ := body_parts (TL := TL) TO h
    generalize decide (b / 9223372036854775808 ≠ 0) = y
    cases y with
    | false => exact ⟨by simp [sgn]; omega, fun c hc => parts_asc hp c (by simpa [sgn] using hc)⟩
    | true =>
      refine ⟨by simp [sgn]; omega, fun c hc => ?_⟩
      rcases List.mem_append.1 hc with hc | hc
      · simp [sgn] at hc
        subst hc
        decide
      · exact parts_asc hp c hc
end Go.Proofs.Qxb6604548aDoor
