import Derived.Test.Qxb6604548aDoorFv
namespace Go.Proofs.Qxb6604548aDoor
open Go.RowKit

theorem body_same {TH TL : Nat → Nat} {a b : Nat} (h : a % 9223372036854775808 = b % 9223372036854775808) : body TH TL a = body TH TL b := by
  unfold body
  rw [show a / 4503599627370496 % 2048 = b / 4503599627370496 % 2048 by omega, show a % 4503599627370496 = b % 4503599627370496 by omega]
theorem FT_nan {TH TL : Nat → Nat} {b : Nat} (h : 9218868437227405312 < b % 9223372036854775808) : lit (FT TH TL b) = [78, 97, 78, 46, 48] := by
  unfold FT
  rw [if_pos (by omega), decide_eq_true (by omega : b % 4503599627370496 ≠ 0)]
  unfold spec
  rw [if_pos rfl]
  decide
theorem FT_inf {TH TL : Nat → Nat} {b : Nat} (h : b % 9223372036854775808 = 9218868437227405312) : lit (FT TH TL b) = if sb b then [45, 73, 110, 102, 46, 48] else [43, 73, 110, 102, 46, 48] := by
  unfold FT
  rw [if_pos (by omega), decide_eq_false (by omega : ¬ b % 4503599627370496 ≠ 0)]
  unfold spec
  rw [if_neg (by decide)]
  show lit (if sb b = true then _ else _) = _
  cases sb b <;> decide
theorem FT_fin {TH TL : Nat → Nat} {b : Nat} (h : b % 9223372036854775808 < 9218868437227405312) : FT TH TL b = sgn (sb b) ++ body TH TL b := by
  unfold FT
  rw [if_neg (by omega)]
  rfl
theorem minus_ba (l : List UInt8) : (⟨(45 :: l).toArray⟩ : ByteArray) = { data := #[45] } ++ ⟨l.toArray⟩ := by
  apply ba_eq
  simp
theorem neg_law (b : Nat) (TH TL : Nat → Nat) (w : World) (hb : b < 18446744073709551616) (T : Tab TH TL w) (TO : THok TH) (TP : ∀ wx, Below w.heap.size w wx → Lib.TabIs Tryd.prog wx "internal/strconv.uint64pow10" .u64 Lib.pow10Tab) :
    Calls Tryd.prog 4 #[.float .f64 b] w fun e w' => RT w e w' := by
  obtain ⟨nb1, nb2, nb3⟩ := neg_facts hb
  have two : Two b w ⟨(lit (FT TH TL b)).toArray⟩ ⟨(lit (FT TH TL (Op.negFloat .f64 b))).toArray⟩ :=
    ⟨zzLiteral_any b TH TL w hb T TO TP (FT_fine TO b).1 (FT_fine TO b).2,
     fun w1 h1 => zzLiteral_any _ TH TL w1 nb1 (T.later h1) TO (fun wx hx => TP wx (h1.trans (hx.mono h1.size))) (FT_fine TO _).1 (FT_fine TO _).2⟩
  generalize Op.negFloat .f64 b = nb at nb1 nb2 nb3 two
  rcases Nat.lt_trichotomy (b % 9223372036854775808) 9218868437227405312 with hr | hr | hr
  · obtain ⟨a, f, x, hp, hl⟩ := body_parts (TL := TL) TO (b := b) (by omega)
    obtain ⟨⟨f', hp', hs⟩, hm⟩ := lit_parts hp
    have hL := lit3_of hp' hs
    rw [FT_fin hr, FT_fin (by omega : nb % 9223372036854775808 < 9218868437227405312), body_same nb2, nb3] at two
    have hsz : (⟨(lit (body TH TL b)).toArray⟩ : ByteArray).size ≤ 1000 := by
      rw [Lib.size_eq]
      unfold lit
      split <;> simp <;> omega
    have h0 : 0 < (⟨(lit (body TH TL b)).toArray⟩ : ByteArray).size := by
      have := hL.all
      have := hL.some'
      omega
    have hd : digB (⟨(lit (body TH TL b)).toArray⟩ : ByteArray)[0].toNat = true := by
      rw [← dgAt_in h0]
      exact hL.d1 0 hL.p1
    have e1 := fin_neq hb hr
    have e2 := fin_gt hb hr
    have e3 := fin_lt hb hr
    have e5 := fin_eq0 hb hr
    cases hsb : sb b with
    | false =>
      rw [hsb] at two
      simp only [sgn, Bool.not_false, Bool.false_eq_true, if_false, if_true, List.nil_append, List.singleton_append] at two
      rw [hm, minus_ba] at two
      by_cases hz : b % 9223372036854775808 = 0
      · rw [decide_eq_true hz] at e5
        have e0 := zero_of hb hz
        rw [hsb] at e0
        simp only [Bool.false_eq_true, if_false] at e0
        exact law4_pos0 b w _ h0 hd _ _ _ hsz hL two _ e1 e2 e3 (by rw [e0]; decide +kernel) e5 (by rw [e0]; exact inv_pos) inv_pos_lt
      · rw [decide_eq_false hz] at e5
        exact law4_pos b w _ h0 hd _ _ _ hsz hL two e1 e2 e3 ((fin_lt0 hb hr hz).trans hsb) e5
    | true =>
      rw [hsb] at two
      simp only [sgn, Bool.not_true, Bool.false_eq_true, if_false, if_true, List.nil_append, List.singleton_append] at two
      rw [hm, minus_ba] at two
      by_cases hz : b % 9223372036854775808 = 0
      · rw [decide_eq_true hz] at e5
        have e0 := zero_of hb hz
        rw [hsb] at e0
        simp only [if_true] at e0
        exact law4_neg0 b w _ h0 hd _ _ _ hsz hL two _ e1 e2 e3 (by rw [e0]; decide +kernel) e5 (by rw [e0]; exact inv_neg) inv_neg_lt
      · rw [decide_eq_false hz] at e5
        exact law4_neg b w _ h0 hd _ _ _ hsz hL two e1 e2 e3 ((fin_lt0 hb hr hz).trans hsb) e5
  · rw [FT_inf hr, FT_inf (nb2.trans hr), nb3] at two
    have e1 := inf_neq hb hr
    have e2 := inf_gt hb hr
    have e3 := inf_lt hb hr
    cases hsb : sb b with
    | false =>
      rw [hsb] at two e2
      exact law4_pinf b w two e1 e2
    | true =>
      rw [hsb] at two e2 e3
      exact law4_ninf b w two e1 e2 e3
  · rw [FT_nan hr, FT_nan (by omega : 9218868437227405312 < nb % 9223372036854775808)] at two
    exact law4_nan b w two (nan_neq hb hr)
end Go.Proofs.Qxb6604548aDoor
