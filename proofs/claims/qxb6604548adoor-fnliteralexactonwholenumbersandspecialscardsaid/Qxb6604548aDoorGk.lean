import Derived.Test.Qxb6604548aDoorGj
namespace Go.Proofs.Qxb6604548aDoor
open Go.RowKit

theorem pow_big {m t : Nat} (hm : m < 9007199254740992) (ht : 53 ≤ t) : m / 2 ^ t = 0 := by
  have h1 : 2 ^ 53 ≤ 2 ^ t := Nat.pow_le_pow_right (by decide) ht
  rw [show (2 : Nat) ^ 53 = 9007199254740992 by decide] at h1
  exact Nat.div_eq_of_lt (Nat.lt_of_lt_of_le hm h1)
theorem exact_law (b : Nat) (w : World) (hb : b < 18446744073709551616) (T : Tab TH0 TL0 w) (TP : ∀ wx, Below w.heap.size w wx → Lib.TabIs Tryd.prog wx "internal/strconv.uint64pow10" .u64 Lib.pow10Tab) :
    Calls Tryd.prog 3 #[.float .f64 b] w fun e w' => RT w e w' := by
  have one : One b w ⟨(lit (FT TH0 TL0 b)).toArray⟩ := zzLiteral_any b TH0 TL0 w hb T TH0_ok TP (FT_fine TH0_ok b).1 (FT_fine TH0_ok b).2
  rcases Nat.lt_trichotomy (b % 9223372036854775808) 9218868437227405312 with hr | hr | hr
  · obtain ⟨t1, t2, t3⟩ := fin_text hr
    rw [t1] at one
    have e1 := fin_neq hb hr
    have e2 := fin_gt hb hr
    have e3 := fin_lt hb hr
    have hS := signs_of hb hr
    have t4 : ∀ wx, Calls Tryd.prog 8 #[.string ⟨(sgn (sb b) ++ lit (body TH0 TL0 b)).toArray⟩] wx (fun e w' => RN (sig (lit (body TH0 TL0 b)) 0 false) wx e w') := fun wx => by
      have := sig_any ⟨(sgn (sb b) ++ lit (body TH0 TL0 b)).toArray⟩ wx t2
      rwa [show sig (⟨(sgn (sb b) ++ lit (body TH0 TL0 b)).toArray⟩ : ByteArray).data.toList 0 false = sig (lit (body TH0 TL0 b)) 0 false from sig_sgn (sb b) _] at this
    by_cases hx0 : b / 4503599627370496 % 2048 = 0
    · have hrd := rd_sub hb hx0
      have hmt : b % 4503599627370496 < 9007199254740992 := by omega
      obtain ⟨t, ht⟩ : ∃ t : Nat, (t : Int) = 1074 := ⟨1074, rfl⟩
      rw [show (-1074 : Int) = -(t : Int) by omega] at hrd
      obtain ⟨e8, e9⟩ := in53 hrd hmt (by omega)
      have hv := toInt_of (t := t) hrd hmt
      rw [pow_big hmt (by omega)] at hv
      by_cases hm0 : b % 4503599627370496 = 0
      · have hbody : lit (body TH0 TL0 b) = wTxt 0 := by
          unfold body
          rw [if_pos hx0, if_pos hm0]
          exact zero_lit
        rw [hbody] at one
        exact law3_whole b w _ _ (whole_any (by decide) hS hv) one e1 e2 e3 e8 e9 hv (back_zero hb (by omega))
      · have hsg : sig (lit (body TH0 TL0 b)) 0 false ≤ 17 := by
          unfold body
          rw [if_pos hx0, if_neg hm0]
          exact fin_sig (by omega) (by omega) (by decide) (by decide) (fun _ => rfl)
        exact law3_frac b w _ _ t3 t4 (by omega) _ one e1 e2 e3 e8 e9 hv (back_small hrd hm0)
    · obtain ⟨ex, hex⟩ : ∃ ex, b / 4503599627370496 % 2048 = ex := ⟨_, rfl⟩
      obtain ⟨mt, hmt⟩ : ∃ mt, b % 4503599627370496 = mt := ⟨_, rfl⟩
      have hmt2 : mt < 4503599627370496 := by omega
      have hex1 : 1 ≤ ex := by omega
      have hex2 : ex < 2047 := by omega
      have hrd := rd_nm hb hex hmt hex1 hex2
      have hbody : body TH0 TL0 b = fin TH0 TL0 (mt + 4503599627370496) ((ex : Int) - 1023) := by
        unfold body
        rw [if_neg hx0, hex, hmt]
      have hsg : sig (lit (body TH0 TL0 b)) 0 false ≤ 17 := by
        rw [hbody]
        exact fin_sig (by omega) (by omega) (by omega) (by omega) (fun h => by omega)
      by_cases hbig : 1076 ≤ ex
      · obtain ⟨o1, o2⟩ := out53 hrd (by omega) (by omega)
        cases hsb : sb b with
        | false =>
          rw [hsb] at o1
          exact law3_big b w _ _ t3 t4 (by omega) one e1 e2 e3 o1 (o2 hsb)
        | true =>
          rw [hsb] at o1
          exact law3_low b w _ _ t3 t4 (by omega) one e1 e2 e3 o1
      · obtain ⟨t, ht⟩ : ∃ t : Nat, ex + t = 1075 := ⟨1075 - ex, by omega⟩
        rw [show (ex : Int) - 1075 = -(t : Int) by omega] at hrd
        obtain ⟨e8, e9⟩ := in53 hrd (by omega) (by omega)
        have hv := toInt_of hrd (by omega)
        by_cases ht52 : t ≤ 52
        · have e10 := back_nm hb hex hmt ht52 ht
          by_cases hd : (mt + 4503599627370496) % 2 ^ t = 0
          · rw [decide_eq_true hd] at e10
            obtain ⟨g1, g2⟩ := sub_mod_ge (m := mt + 4503599627370496) ht52 (by omega)
            rw [hd, Nat.sub_zero] at g2
            have hn1 : 1 ≤ (mt + 4503599627370496) / 2 ^ t := by
              rcases Nat.eq_zero_or_pos ((mt + 4503599627370496) / 2 ^ t) with h | h
              · rw [h, Nat.zero_mul] at g2; omega
              · exact h
            have hn2 : (mt + 4503599627370496) / 2 ^ t < 9007199254740992 := Nat.lt_of_le_of_lt (Nat.div_le_self _ _) (by omega)
            have hw : lit (body TH0 TL0 b) = wTxt ((mt + 4503599627370496) / 2 ^ t) := by
              rw [hbody, show (ex : Int) - 1023 = 52 - (t : Int) by omega]
              exact whole_fin (by omega) g2.symm (by omega) (by omega) hn1
            rw [hw] at one
            exact law3_whole b w _ _ (whole_any hn2 hS hv) one e1 e2 e3 e8 e9 hv e10
          · rw [decide_eq_false hd] at e10
            exact law3_frac b w _ _ t3 t4 (by omega) _ one e1 e2 e3 e8 e9 hv e10
        · rw [pow_big (by omega) (by omega)] at hv
          exact law3_frac b w _ _ t3 t4 (by omega) _ one e1 e2 e3 e8 e9 hv (back_small hrd (by omega))
  · rw [FT_inf hr] at one
    have e1 := inf_neq hb hr
    have e2 := inf_gt hb hr
    have e3 := inf_lt hb hr
    cases hsb : sb b with
    | false =>
      rw [hsb] at one e2
      exact law3_pinf b w one e1 e2
    | true =>
      rw [hsb] at one e2 e3
      exact law3_ninf b w one e1 e2 e3
  · rw [FT_nan hr] at one
    exact law3_nan b w one (nan_neq hb hr)
end Go.Proofs.Qxb6604548aDoor
