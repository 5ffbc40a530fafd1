import Derived.Test.Qxb6604548aDoorGi
namespace Go.Proofs.Qxb6604548aDoor
open Go.RowKit

theorem litN_of {l a f x : List UInt8} (h : Parts l a f x) (hs : f ≠ [] ∨ x ≠ []) : LitN ⟨(45 :: l).toArray⟩ (a.length + 1) (a.length + f.length + 1) (l.length + 1) := by
  obtain ⟨he, ha1, had, hf, hx⟩ := h
  have hll : l.length = a.length + (f.length + x.length) := by rw [he]; simp
  have ha2 := List.length_pos_iff.2 ha1
  refine ⟨at_seg' (p := []) (q := l) rfl rfl, by omega, fun i h1 h2 => dg_seg' (p := [45]) (m := a) (q := f ++ x) (by simpa using he) had (by simpa using h1) (by simp; omega), by omega, ?_, by omega, ?_, by rw [Lib.size_eq]; simp, ?_⟩
  · intro hlt
    rcases hf with rfl | ⟨t, rfl, ht, htd⟩
    · simp at hlt
    · have := List.length_pos_iff.2 ht
      refine ⟨by simp; omega, at_seg' (p := 45 :: a) (q := t ++ x) (by simpa using he) (by simp), fun i h1 h2 => dg_seg' (p := 45 :: a ++ [46]) (m := t) (q := x) (by simpa using he) htd (by simp at h1 ⊢; omega) (by simp at h2 ⊢; omega)⟩
  · intro hlt
    rcases hx with rfl | ⟨s, t, rfl, hs2, ht, htd⟩
    · simp at hll; omega
    · refine ⟨by simp at hll; omega, at_seg' (p := 45 :: (a ++ f)) (q := s :: t) (by simpa using he) (by simp), ?_, fun i h1 h2 => dg_seg' (p := 45 :: (a ++ f ++ [101, s])) (m := t) (q := []) (by simpa using he) htd (by simp at h1 ⊢; omega) (by simp at hll ⊢; omega)⟩
      obtain ⟨h1, h2⟩ := at_seg' (l := 45 :: l) (p := 45 :: (a ++ f ++ [101])) (q := t) (c := s) (n := a.length + f.length + 1 + 1) (by simpa using he) (by simp; omega)
      exact ⟨h1, hs2.imp (fun e => h2.trans e) (fun e => h2.trans e)⟩
  · rcases hs with h | h <;> have := List.length_pos_iff.2 h <;> omega
theorem sig_sgn (sg : Bool) (l : List UInt8) : sig (sgn sg ++ l) 0 false = sig l 0 false := by
  cases sg
  · rfl
  · exact sig_minus l 0 false
/-- The text of a finite double: a literal; the sign aside, what body says. -/
theorem fin_text {b : Nat} (hr : b % 9223372036854775808 < 9218868437227405312) : lit (FT TH0 TL0 b) = sgn (sb b) ++ lit (body TH0 TL0 b) ∧ (⟨(sgn (sb b) ++ lit (body TH0 TL0 b)).toArray⟩ : ByteArray).size ≤ 1000 ∧ ∀ wx, Calls Tryd.prog 7 #[.string ⟨(sgn (sb b) ++ lit (body TH0 TL0 b)).toArray⟩] wx (fun e w' => RB true wx e w') := by
  obtain ⟨a, f, x, hp, hl⟩ := body_parts (TL := TL0) TH0_ok (b := b) (by omega)
  obtain ⟨⟨f', hp', hs⟩, hm⟩ := lit_parts hp
  have hlen : (lit (body TH0 TL0 b)).length ≤ 100 := by
    unfold lit
    split
    · omega
    · rw [List.length_append, List.length_cons, List.length_singleton]
      omega
  rw [FT_fin hr]
  cases sb b with
  | false =>
    have hsz : (⟨(sgn false ++ lit (body TH0 TL0 b)).toArray⟩ : ByteArray).size ≤ 1000 := by
      rw [Lib.size_eq]; simp [sgn]; omega
    exact ⟨rfl, hsz, fun wx => isLit_any _ _ _ _ wx hsz (lit3_of hp' hs)⟩
  | true =>
    have hsz : (⟨(sgn true ++ lit (body TH0 TL0 b)).toArray⟩ : ByteArray).size ≤ 1000 := by
      rw [Lib.size_eq]; simp [sgn]; omega
    exact ⟨hm, hsz, fun wx => isLit_neg _ _ _ _ wx hsz (litN_of hp' hs)⟩
theorem signs_of {b : Nat} (hb : b < 18446744073709551616) (hr : b % 9223372036854775808 < 9218868437227405312) : Signs b (sb b) := by
  by_cases hz : b % 9223372036854775808 = 0
  · right
    have e0 := zero_of hb hz
    cases hsb : sb b with
    | false =>
      rw [hsb] at e0
      simp only [Bool.false_eq_true, if_false] at e0
      exact ⟨_, by rw [e0]; decide +kernel, by rw [e0]; decide +kernel, by rw [e0]; exact inv_pos, inv_pos_lt⟩
    | true =>
      rw [hsb] at e0
      simp only [if_true] at e0
      exact ⟨_, by rw [e0]; decide +kernel, by rw [e0]; decide +kernel, by rw [e0]; exact inv_neg, inv_neg_lt⟩
  · left
    have e5 := fin_eq0 hb hr
    rw [decide_eq_false hz] at e5
    exact ⟨fin_lt0 hb hr hz, e5⟩
theorem whole_any {b n : Nat} (hn : n < 9007199254740992) (hS : Signs b (sb b)) (hv : floatToIntVal .f64 b .i64 = some (sgnI (sb b) n)) (wx : World) : Calls Tryd.prog 6 #[.float .f64 b] wx (fun e w' => RA wx ⟨(sgn (sb b) ++ wTxt n).toArray⟩ e w') := by
  by_cases h6 : (Lib.decDigits n).length ≤ 6
  · exact whole_short b n (sb b) wx hn hS hv h6
  · have h1 : 1 ≤ n := by
      rcases Nat.eq_zero_or_pos n with h | h
      · subst h
        exact absurd (by decide +kernel) h6
      · exact h
    have h20 : (Lib.decDigits n).length ≤ 20 := by rw [Lib.decDigits_length]; exact nDig_le h1 (by omega)
    exact whole_long b n (sb b) wx hn hS hv h6 h20 (trim_pos h1)
end Go.Proofs.Qxb6604548aDoor
