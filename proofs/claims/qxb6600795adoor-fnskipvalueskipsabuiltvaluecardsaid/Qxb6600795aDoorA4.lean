import Derived.Test.Qxb6600795aDoorA3
namespace Go.Proofs.Qxb6600795aDoor
open Go.RowKit

theorem appStr_int (base g cap : Nat) (l : List UInt8) (v : Value) (c : Int) (w : World) (hc : 0 ≤ c) (hcap : l.length + 9 ≤ cap) (h : AO w base g cap l v w) :
    Calls Tryd.prog 13 #[v, .int .u8 c] w fun e w' => RetA w base g cap l Str e w' := by
  obtain ⟨m, rfl⟩ := Int.eq_ofNat_of_zero_le hc
  exact appStr_any base g cap l v m w hcap h
theorem appSc_int (base g cap : Nat) (l : List UInt8) (v : Value) (c : Int) (w : World) (hc : 0 ≤ c) (hcap : l.length + 8 ≤ cap) (h : AO w base g cap l v w) :
    Calls Tryd.prog 14 #[v, .int .u8 c] w fun e w' => RetA w base g cap l Sc e w' := by
  obtain ⟨m, rfl⟩ := Int.eq_ofNat_of_zero_le hc
  exact appSc_any base g cap l v m w hcap h
/-- Behind the three makes. -/
theorem bs_start {w w1 w2 w3 : World} {N : Nat} {v : Value} (h1 : AO w w.heap.size w.heap.size (20 * N + 16) [] v w1)
    (h2 : w2.ownsRow w.heap.size 5 1 (.slice (some ⟨w1.heap.size, 0, none⟩) 0 N) 0 []) (g2 : w1.grownBy w2 none) (h3 : w3.ownsRow w.heap.size 3 1 (.slice (some ⟨w2.heap.size, 0, none⟩) 0 N) 0 []) (g3 : w2.grownBy w3 none) :
    BS w N w.heap.size w1.heap.size w2.heap.size 0 v [] 0 0 w3 := by
  have l1 := (h1.2.1.lt w.heap.size rfl).2
  have l2 := (h2.lt w1.heap.size rfl).2
  refine ⟨⟨h1.1, (h1.2.1.kept g2 (.inr (by simp [Value.ownBlock]))).kept g3 (.inr (by simp [Value.ownBlock]))⟩, ⟨[], rfl, by simp, h2.kept g3 (.inr (by simp [Value.ownBlock]))⟩, ⟨[], rfl, by simp, h3⟩, ⟨by omega, by omega, by omega⟩, ?_⟩
  have b1 : Below w.heap.size w w1 := (Below.refl _ _).grown h1.2.2 (Nat.le_refl _) (fun k hk => by cases hk; exact Nat.le_refl _)
  exact (b1.grown g2 b1.size (fun k hk => by cases hk)).grown g3 (Nat.le_trans b1.size g2.size) (fun k hk => by cases hk)
def BL (w : World) (N g1 g2 g3 : Nat) (v s5 s6 : Value) (n : Nat) (wr : World) : Prop :=
  ∃ (l : List UInt8) (k : Nat), s5 = .slice (some ⟨g2, 0, none⟩) k N ∧ s6 = .slice (some ⟨g3, 0, none⟩) k N ∧ BS w N g1 g2 g3 n v l k k wr ∧ l.length + k ≤ 20 * n ∧ k ≤ n ∧ BI k l

set_option maxHeartbeats 2000000 in
set_option maxRecDepth 100000 in
theorem build_any (a : Option Addr) (N c : Nat) (S : Nat → UInt8) (w : World) (hN : N ≤ 65536) (hr : Rb w a N S) :
    Calls Tryd.prog 9 #[.slice a N c] w fun e w' => RetV w N e w' := by
  have HR : Aside (Rb w a N S) := hr
  clear hr
  obtain ⟨i5, hi5, hz50, hz51, hz52⟩ := info_parts Tryd.info5
  obtain ⟨i3, hi3, hz30, hz31, hz32⟩ := info_parts Tryd.info3
  go_enter Tryd.func9, Tryd.ntmps9
  by_cases h0 : N = 0
  · subst h0
    go_wp2_with (first
      | (at_make; refine wpList_make_own _ rfl _ _ 22 rfl w.heap.size 5 i5 (.int .u8 0) 1 Tryd.underlying22 hi5 hz50 hz51 _ _ _ 16 rfl rfl (by omega) (by rw [hz52]; omega) (by unfold maxLen; omega) (Nat.le_refl _) ?_; intro w1 h1 h2; have H1 : Aside (AO w w.heap.size w.heap.size (20 * 0 + 16) [] (.slice (some ⟨w.heap.size, 0, none⟩) 0 16) w1) := ⟨rfl, h1, grown_any h2⟩; clear h1 h2)
      | (at_builtin; refine wpList_ao _ rfl (.tmp 20) (.tmp 21) rfl rfl (H1.out.alloc _) (some ⟨w1.heap.size, 0, none⟩) 4 4 [110, 117, 108, 108] rfl rfl (fun h => by cases h) (cells_lit _ [110, 117, 108, 108] _ rfl) (by simp) ?_; intro v2 w2 h2; have H2 : Aside (AO w w.heap.size w.heap.size (20 * 0 + 16) [110, 117, 108, 108] v2 w2) := h2; clear h2))
    go_ret
    exact retV_ao H2.out (by simp) (.inr (.inl (by simp [Sc, scals]))) (Nat.le_refl _)
  · have h0' : ((N : Int) == 0) = false := beq_eq_false_iff_ne.2 (by omega)
    obtain ⟨b0, o0, rfl, hc0⟩ := HR.out 0 (by omega)
    generalize hs0 : S 0 = s0 at *
    clear hs0
    rw [Nat.add_zero] at hc0
    have hs0 := UInt8.toNat_lt s0
    have hN2 : (0 : Int) < (N : Int) := by omega
    rcases (by omega : (s0.toNat : Int) % 4 = 0 ∨ (s0.toNat : Int) % 4 = 1 ∨ 2 ≤ (s0.toNat : Int) % 4) with hr | hr | hr
    · go_wp2_with (at_make; refine wpList_make_own _ rfl _ _ 22 rfl w.heap.size 5 i5 (.int .u8 0) 1 Tryd.underlying22 hi5 hz50 hz51 _ _ _ (20 * N + 16) rfl rfl (by omega) (by rw [hz52]; omega) (by unfold maxLen; omega) (Nat.le_refl _) ?_; intro w1 h1 h2; have H1 : Aside (AO w w.heap.size w.heap.size (20 * N + 16) [] (.slice (some ⟨w.heap.size, 0, none⟩) 0 (20 * N + 16)) w1) := ⟨rfl, h1, grown_any h2⟩; have hc1 := h2.cell hc0 (by simp); clear h1 h2)
      refine (appStr_int w.heap.size w.heap.size (20 * N + 16) [] _ _ w1 (by omega) (by simp) H1.out.here).mono ?_
      rintro e w2 ⟨t, v, ht, rfl, h2⟩
      have H2 : Aside (RetV w N (.returned v) w2) := retV_ao (H1.out.trans h2) (by have := ht.len; simp; omega) (.inl ht) (Nat.le_refl _)
      clear h2 ht H1 hc1
      go_wp2
      go_ret
      exact H2.out
    · go_wp2_with (at_make; refine wpList_make_own _ rfl _ _ 22 rfl w.heap.size 5 i5 (.int .u8 0) 1 Tryd.underlying22 hi5 hz50 hz51 _ _ _ (20 * N + 16) rfl rfl (by omega) (by rw [hz52]; omega) (by unfold maxLen; omega) (Nat.le_refl _) ?_; intro w1 h1 h2; have H1 : Aside (AO w w.heap.size w.heap.size (20 * N + 16) [] (.slice (some ⟨w.heap.size, 0, none⟩) 0 (20 * N + 16)) w1) := ⟨rfl, h1, grown_any h2⟩; have hc1 := h2.cell hc0 (by simp); clear h1 h2)
      refine (appSc_int w.heap.size w.heap.size (20 * N + 16) [] _ _ w1 (by omega) (by simp) H1.out.here).mono ?_
      rintro e w2 ⟨t, v, ht, rfl, h2⟩
      have H2 : Aside (RetV w N (.returned v) w2) := retV_ao (H1.out.trans h2) (by have := ht.len; simp; omega) (.inr (.inl ht)) (Nat.le_refl _)
      clear h2 ht H1 hc1
      go_wp2
      go_ret
      exact H2.out
    · have hr0 : ((s0.toNat : Int) % 4 == 0) = false := beq_eq_false_iff_ne.2 (by omega)
      have hr1 : ((s0.toNat : Int) % 4 == 1) = false := beq_eq_false_iff_ne.2 (by omega)
      go_upto_if 48 with (first
        | (at_make; refine wpList_make_own _ rfl _ _ 22 rfl w.heap.size 5 i5 (.int .u8 0) 1 Tryd.underlying22 hi5 hz50 hz51 _ _ _ (20 * N + 16) rfl rfl (by omega) (by rw [hz52]; omega) (by unfold maxLen; omega) (Nat.le_refl _) ?_; intro w1 h1 h2; have H1 : Aside (AO w w.heap.size w.heap.size (20 * N + 16) [] (.slice (some ⟨w.heap.size, 0, none⟩) 0 (20 * N + 16)) w1) := ⟨rfl, h1, grown_any h2⟩; have hc1 := h2.cell hc0 (by simp); have hsz1 := h2.size; clear h1 h2)
        | (at_make; refine wpList_make_own _ rfl _ _ 31 rfl w.heap.size 3 i3 (.int .i64 0) 1 Tryd.underlying31 hi3 hz30 hz31 _ _ _ N rfl rfl rfl (by rw [hz32]; omega) (by unfold maxLen; omega) hsz2 ?_; intro w3 h1 h2; have H3 : Aside (BS w N w.heap.size w1.heap.size w2.heap.size 0 (.slice (some ⟨w.heap.size, 0, none⟩) 0 (20 * N + 16)) [] 0 0 w3) := bs_start H1.out H2.out.1 H2.out.2 h1 h2; clear h1 h2)
        | (at_make; refine wpList_make_own _ rfl _ _ 22 rfl w.heap.size 5 i5 (.int .u8 0) 1 Tryd.underlying22 hi5 hz50 hz51 _ _ _ N rfl rfl rfl (by rw [hz52]; omega) (by unfold maxLen; omega) hsz1 ?_; intro w2 h1 h2; have H2 : Aside (w2.ownsRow w.heap.size 5 1 (.slice (some ⟨w1.heap.size, 0, none⟩) 0 N) 0 [] ∧ w1.grownBy w2 none) := ⟨h1, h2⟩; have hsz2 := Nat.le_trans hsz1 h2.size; clear h1 h2))
      generalize w1.heap.size = g2 at *
      generalize w2.heap.size = g3 at *
      go_cut [3, 5] (fun v s5 wx => ∃ l : List UInt8, s5 = .slice (some ⟨g2, 0, none⟩) 1 N ∧ BS w N w.heap.size g2 g3 0 v l 1 0 wx ∧ l.length = 1 ∧ BI 1 l)
      case first =>
        cases hr2 : ((s0.toNat : Int) % 4 == 2) with
        | true =>
          go_wp2_with (first
            | (at_builtin; refine wpList_ao _ rfl (.tmp 49) (.tmp 50) rfl rfl (H3.out.ao.alloc _) (some ⟨w3.heap.size, 0, none⟩) 1 1 [91] rfl rfl (fun h => by cases h) (cells_lit _ [91] _ rfl) (by simp) ?_; intro v4 w4 h4; have H4 : Aside (BS w N w.heap.size g2 g3 0 v4 [91] 0 0 w4) := H3.out.out h4; clear h4)
            | (at_builtin; refine wpList_cl _ rfl (.tmp 52) (.tmp 53) rfl (H4.out.alloc _) rfl ⟨w4.heap.size, 0, none⟩ 93 rfl (by decide) (cells_lit _ [93] _ rfl) (by omega) ?_; intro w5 h5; have H5 : Aside (BS w N w.heap.size g2 g3 0 v4 [91] 1 0 w5) := h5; clear h5))
          go_meet
          case rel => exact ⟨[91], rfl, H5.out, rfl, bi_start (.inr rfl)⟩
        | false =>
          go_wp2_with (first
            | (at_builtin; refine wpList_ao _ rfl (.tmp 55) (.tmp 56) rfl rfl (H3.out.ao.alloc _) (some ⟨w3.heap.size, 0, none⟩) 1 1 [123] rfl rfl (fun h => by cases h) (cells_lit _ [123] _ rfl) (by simp) ?_; intro v4 w4 h4; have H4 : Aside (BS w N w.heap.size g2 g3 0 v4 [123] 0 0 w4) := H3.out.out h4; clear h4)
            | (at_builtin; refine wpList_cl _ rfl (.tmp 58) (.tmp 59) rfl (H4.out.alloc _) rfl ⟨w4.heap.size, 0, none⟩ 125 rfl (by decide) (cells_lit _ [125] _ rfl) (by omega) ?_; intro w5 h5; have H5 : Aside (BS w N w.heap.size g2 g3 0 v4 [123] 1 0 w5) := h5; clear h5))
          go_meet
          case rel => exact ⟨[123], rfl, H5.out, rfl, bi_start (.inl rfl)⟩
      case rest =>
        obtain ⟨l, rfl, hB, hl, hBI⟩ := hcut
        have HB : Aside (BS w N w.heap.size g2 g3 0 u3 l 1 0 wc) := hB
        have HBI : Aside (l.length = 1 ∧ BI 1 l) := ⟨hl, hBI⟩
        clear hB hl hBI H1 H2 H3 hc1 hc0 hr hr0 hr1
        go_upto_block 1 with (at_builtin; refine wpList_ct _ rfl (.tmp 61) (.tmp 62) rfl (HB.out.alloc _) rfl ⟨wc.heap.size, 0, none⟩ rfl (cells_ct _) (by omega) ?_; intro w5 h5; have H5 : Aside (BS w N w.heap.size g2 g3 0 u3 l 1 1 w5) := h5; clear h5)
        go_cut [3, 5] (fun v s5 wx => ∃ (l : List UInt8) (k : Nat), s5 = .slice (some ⟨g2, 0, none⟩) k N ∧ BS w N w.heap.size g2 g3 N v l k k wx ∧ l.length + k ≤ 20 * N ∧ k ≤ N ∧ BI k l)
        case first =>
          go_wp2_with fail
          go_loopg [3, 5, 6, 7] (N - 1) (fun kk v s5 s6 ix wr => ∃ n : Nat, kk = N - n ∧ 1 ≤ n ∧ n ≤ N ∧ ix = .int .i64 n ∧ BL w N w.heap.size g2 g3 v s5 s6 n wr)
          case atStart => exact ⟨1, rfl, Nat.le_refl _, by omega, rfl, l, 1, rfl, rfl, H5.out.more (by omega), by have := HBI.out.1; omega, Nat.le_refl _, HBI.out.2⟩
          case round =>
            clear H5 HB HBI
            obtain ⟨n, rfl, hn1, hn2, rfl, l, k, rfl, rfl, hB, hlk, hkn, hBI⟩ := hrel
            have HB : Aside (BS w N w.heap.size g2 g3 n u3 l k k wr) := hB
            have HBI : Aside (BI k l) := hBI
            have hbel := hB.bel
            clear hB hBI
            by_cases hlt : n < N
            · have hlt' : (n : Int) < (N : Int) := by omega
              cases k with
              | zero =>
                clear hbel
                go_wp2
                go_meet
                case rel => exact ⟨l, 0, rfl, HB.out.more (by omega), by omega, by omega, HBI.out⟩
              | succ t =>
                obtain ⟨b1, o1, hab, hc1⟩ := HR.out.later hbel n hlt
                cases hab
                obtain ⟨ch, hch, hcc⟩ := HB.out.top
                have hopl := UInt8.toNat_lt (S n)
                generalize S n = op at *
                have HRb : Aside (Below w.heap.size w wr) := hbel
                clear hbel
                have ht1 : (0 : Int) < (t : Int) + 1 := by omega
                cases hk0 : ((op.toNat : Int) % 5 == 0) with
                | true =>
                  go_wp2_with (at_builtin; refine wpList_ao _ rfl (.tmp 86) (.tmp 91) rfl rfl (HB.out.ao.alloc _) (some ⟨wr.heap.size, 0, none⟩) 1 1 [ch] rfl rfl (fun h => by cases h) (cells_lit _ [ch] _ rfl) (by simp; omega) ?_; intro v1 w1 hh; have H1 : Aside (BS w N w.heap.size g2 g3 n v1 (l ++ [ch]) (t + 1) (t + 1) w1) := HB.out.out hh; clear hh)
                  go_roundg (N - (n + 1))
                  case measure => omega
                  case rel => exact ⟨n + 1, rfl, by omega, by omega, by go_num, l ++ [ch], t, rfl, rfl, ((H1.out.popc (by omega)).popt (by omega)).more (by omega), by simp; omega, by omega, HBI.out.cls hch⟩
                | false =>
                  obtain ⟨cn, hcn, hcn1, hx1, hx2⟩ := HB.out.cnt
                  clear hx1 hx2
                  go_upto_if 103 with fail
                  go_cut [3] (fun v wx => ∃ l' : List UInt8, BS w N w.heap.size g2 g3 n v l' (t + 1) (t + 1) wx ∧ l'.length ≤ l.length + 1 ∧ BI (t + 1) l')
                  case first =>
                    by_cases hc0 : (0 : Int) < (cn : Int)
                    · go_wp2_with (at_builtin; refine wpList_ao _ rfl (.tmp 104) (.tmp 105) rfl rfl (HB.out.ao.alloc _) (some ⟨wr.heap.size, 0, none⟩) 1 1 [44] rfl rfl (fun h => by cases h) (cells_lit _ [44] _ rfl) (by simp; omega) ?_; intro v1 w1 hh; have H1 : Aside (BS w N w.heap.size g2 g3 n v1 (l ++ [44]) (t + 1) (t + 1) w1) := HB.out.out hh; clear hh)
                      go_meet
                      case rel => exact ⟨l ++ [44], H1.out, by simp, HBI.out.byte (by decide)⟩
                    · go_wp2
                      go_meet
                      case rel => exact ⟨l, HB.out, by omega, HBI.out⟩
                  case rest =>
                    clear hcn1 hcc hc1 HB HBI
                    obtain ⟨l1, hB1, hl1, hBI1⟩ := hcut
                    obtain ⟨cn1, hcn1, q1, q2, q3⟩ := hB1.cnt
                    obtain ⟨ch1, hch1, q4⟩ := q3.top
                    have HB1 : Aside (BS w N w.heap.size g2 g3 (n + 1) u3 l1 (t + 1) (t + 1) (wc.setCell ⟨g3, t, none⟩ (.int .i64 ((cn1 : Int) + 1)))) := q3
                    have HBI1 : Aside (BI (t + 1) l1) := hBI1
                    clear q3 hB1 hBI1
                    have hcn2 : (cn1 : Int) + 1 ≤ 65537 := by omega
                    go_upto_if 119 with fail
                    generalize hwW : wc.setCell ⟨g3, t, none⟩ (.int .i64 ((cn1 : Int) + 1)) = W at *
                    go_cut [3] (fun v wx => ∃ l' : List UInt8, BS w N w.heap.size g2 g3 (n + 1) v l' (t + 1) (t + 1) wx ∧ l'.length ≤ l.length + 11 ∧ BI (t + 1) l')
                    case first =>
                      clear hwW q1 q2
                      cases hq : ((ch1.toNat : Int) == 125) with
                      | true =>
                        go_wp2_with fail
                        refine (appStr_int w.heap.size w.heap.size (20 * N + 16) l1 _ _ W (by omega) (by omega) HB1.out.ao).mono ?_
                        rintro e w1 ⟨sx, v1, hsx, rfl, hh⟩
                        have H1 : Aside (BS w N w.heap.size g2 g3 (n + 1) v1 (l1 ++ sx) (t + 1) (t + 1) w1) := HB1.out.out hh
                        have hsl := hsx.len
                        have HBI2 : Aside (BI (t + 1) (l1 ++ sx)) := HBI1.out.str hsx
                        clear hsx hh HB1 HBI1
                        go_wp2_with (at_builtin; refine wpList_ao _ rfl (.tmp 124) (.tmp 125) rfl rfl (H1.out.ao.alloc _) (some ⟨w1.heap.size, 0, none⟩) 1 1 [58] rfl rfl (fun h => by cases h) (cells_lit _ [58] _ rfl) (by simp; omega) ?_; intro v2 w2 hh; have H2 : Aside (BS w N w.heap.size g2 g3 (n + 1) v2 (l1 ++ sx ++ [58]) (t + 1) (t + 1) w2) := H1.out.out hh; clear hh)
                        go_meet
                        case rel => exact ⟨l1 ++ sx ++ [58], H2.out, by simp; omega, HBI2.out.byte (by decide)⟩
                      | false =>
                        go_wp2
                        go_meet
                        case rel => exact ⟨l1, HB1.out, by omega, HBI1.out⟩
                    case rest =>
                      clear hwW q1 q2 q4 HB1 HBI1
                      obtain ⟨l2, hB2, hl2, hBI2⟩ := hcut
                      have HB2 : Aside (BS w N w.heap.size g2 g3 (n + 1) u3 l2 (t + 1) (t + 1) wc) := hB2
                      have HBI2 : Aside (BI (t + 1) l2) := hBI2
                      clear hB2 hBI2
                      have hop0 : (op.toNat : Int) % 5 ≠ 0 := by simpa using hk0
                      rcases (by omega : (op.toNat : Int) % 5 = 1 ∨ (op.toNat : Int) % 5 = 2 ∨ (op.toNat : Int) % 5 = 3 ∨ (op.toNat : Int) % 5 = 4) with hr | hr | hr | hr
                      · go_wp2_with fail
                        refine (appStr_int w.heap.size w.heap.size (20 * N + 16) l2 _ _ wc (by omega) (by omega) HB2.out.ao).mono ?_
                        rintro e w1 ⟨sx, v1, hsx, rfl, hh⟩
                        have H1 : Aside (BS w N w.heap.size g2 g3 (n + 1) v1 (l2 ++ sx) (t + 1) (t + 1) w1) := HB2.out.out hh
                        have hsl := hsx.len
                        have HBI3 : Aside (BI (t + 1) (l2 ++ sx)) := HBI2.out.str hsx
                        clear hsx hh HB2 HBI2
                        go_wp2
                        go_roundg (N - (n + 1))
                        case measure => omega
                        case rel => exact ⟨n + 1, rfl, by omega, by omega, by go_num, l2 ++ sx, t + 1, rfl, rfl, H1.out, by simp; omega, by omega, HBI3.out⟩
                      · go_wp2_with fail
                        refine (appSc_int w.heap.size w.heap.size (20 * N + 16) l2 _ _ wc (by omega) (by omega) HB2.out.ao).mono ?_
                        rintro e w1 ⟨sx, v1, hsx, rfl, hh⟩
                        have H1 : Aside (BS w N w.heap.size g2 g3 (n + 1) v1 (l2 ++ sx) (t + 1) (t + 1) w1) := HB2.out.out hh
                        have hsl := hsx.len
                        have HBI3 : Aside (BI (t + 1) (l2 ++ sx)) := HBI2.out.sc hsx
                        clear hsx hh HB2 HBI2
                        go_wp2
                        go_roundg (N - (n + 1))
                        case measure => omega
                        case rel => exact ⟨n + 1, rfl, by omega, by omega, by go_num, l2 ++ sx, t + 1, rfl, rfl, H1.out, by simp; omega, by omega, HBI3.out⟩
                      · go_wp2_with (first
                          | (at_builtin; refine wpList_ao _ rfl (.tmp 142) (.tmp 143) rfl rfl (HB2.out.ao.alloc _) (some ⟨wc.heap.size, 0, none⟩) 1 1 [91] rfl rfl (fun h => by cases h) (cells_lit _ [91] _ rfl) (by simp; omega) ?_; intro v1 w1 hh; have H1 : Aside (BS w N w.heap.size g2 g3 (n + 1) v1 (l2 ++ [91]) (t + 1) (t + 1) w1) := HB2.out.out hh; clear hh)
                          | (at_builtin; refine wpList_cl _ rfl (.tmp 145) (.tmp 146) rfl (H1.out.alloc _) rfl ⟨w1.heap.size, 0, none⟩ 93 rfl (by decide) (cells_lit _ [93] _ rfl) (by omega) ?_; intro w2 hh; have H2 : Aside (BS w N w.heap.size g2 g3 (n + 1) v1 (l2 ++ [91]) (t + 1 + 1) (t + 1) w2) := hh; clear hh)
                          | (at_builtin; refine wpList_ct _ rfl (.tmp 148) (.tmp 149) rfl (H2.out.alloc _) rfl ⟨w2.heap.size, 0, none⟩ rfl (cells_ct _) (by omega) ?_; intro w3 hh; have H3 : Aside (BS w N w.heap.size g2 g3 (n + 1) v1 (l2 ++ [91]) (t + 1 + 1) (t + 1 + 1) w3) := hh; clear hh))
                        go_roundg (N - (n + 1))
                        case measure => omega
                        case rel => exact ⟨n + 1, rfl, by omega, by omega, by go_num, l2 ++ [91], t + 1 + 1, rfl, rfl, H3.out, by simp; omega, by omega, HBI2.out.opn (by decide)⟩
                      · go_wp2_with (first
                          | (at_builtin; refine wpList_ao _ rfl (.tmp 153) (.tmp 154) rfl rfl (HB2.out.ao.alloc _) (some ⟨wc.heap.size, 0, none⟩) 1 1 [123] rfl rfl (fun h => by cases h) (cells_lit _ [123] _ rfl) (by simp; omega) ?_; intro v1 w1 hh; have H1 : Aside (BS w N w.heap.size g2 g3 (n + 1) v1 (l2 ++ [123]) (t + 1) (t + 1) w1) := HB2.out.out hh; clear hh)
                          | (at_builtin; refine wpList_cl _ rfl (.tmp 156) (.tmp 157) rfl (H1.out.alloc _) rfl ⟨w1.heap.size, 0, none⟩ 125 rfl (by decide) (cells_lit _ [125] _ rfl) (by omega) ?_; intro w2 hh; have H2 : Aside (BS w N w.heap.size g2 g3 (n + 1) v1 (l2 ++ [123]) (t + 1 + 1) (t + 1) w2) := hh; clear hh)
                          | (at_builtin; refine wpList_ct _ rfl (.tmp 159) (.tmp 160) rfl (H2.out.alloc _) rfl ⟨w2.heap.size, 0, none⟩ rfl (cells_ct _) (by omega) ?_; intro w3 hh; have H3 : Aside (BS w N w.heap.size g2 g3 (n + 1) v1 (l2 ++ [123]) (t + 1 + 1) (t + 1 + 1) w3) := hh; clear hh))
                        go_roundg (N - (n + 1))
                        case measure => omega
                        case rel => exact ⟨n + 1, rfl, by omega, by omega, by go_num, l2 ++ [123], t + 1 + 1, rfl, rfl, H3.out, by simp; omega, by omega, HBI2.out.opn (by decide)⟩
            · obtain rfl : n = N := by omega
              clear hbel
              go_wp2
              go_meet
              case rel => exact ⟨l, k, rfl, HB.out, hlk, hkn, HBI.out⟩
        case rest =>
          clear HB HBI
          obtain ⟨l0, k0, rfl, hB0, hl0, hk0, hBI0⟩ := hcut
          have HB0 : Aside (BS w N w.heap.size g2 g3 N u3 l0 k0 k0 wc) := hB0
          have HBI0 : Aside (BI k0 l0) := hBI0
          clear hB0 hBI0
          go_wp2_with fail
          go_loopg [3, 5] k0 (fun kk v s5 wr => ∃ l : List UInt8, s5 = .slice (some ⟨g2, 0, none⟩) kk N ∧ BS w N w.heap.size g2 g3 N v l kk k0 wr ∧ l.length + kk ≤ 20 * N ∧ kk ≤ N ∧ BI kk l)
          case atStart => exact ⟨l0, rfl, HB0.out, hl0, hk0, HBI0.out⟩
          case round =>
            clear HB0 HBI0
            obtain ⟨l1, rfl, hB, hl1, hkN, hBI⟩ := hrel
            have HB : Aside (BS w N w.heap.size g2 g3 N u3 l1 gk k0 wr) := hB
            have HBI : Aside (BI gk l1) := hBI
            clear hB hBI
            cases gk with
            | zero =>
              have HV : Aside (RetV w N (.returned u3) wr) := ⟨l1, w.heap.size, by rw [HB.out.1.1], HB.out.1.2, HBI.out.val, by omega, HB.out.bel⟩
              clear HB HBI
              go_wp2
              go_ret
              exact HV.out
            | succ t =>
              obtain ⟨ch, hch, hcc⟩ := HB.out.top
              have ht1 : (0 : Int) < (t : Int) + 1 := by omega
              go_wp2_with (at_builtin; refine wpList_ao _ rfl (.tmp 168) (.tmp 173) rfl rfl (HB.out.ao.alloc _) (some ⟨wr.heap.size, 0, none⟩) 1 1 [ch] rfl rfl (fun h => by cases h) (cells_lit _ [ch] _ rfl) (by simp; omega) ?_; intro v1 w1 hh; have H1 : Aside (BS w N w.heap.size g2 g3 N v1 (l1 ++ [ch]) (t + 1) k0 w1) := HB.out.out hh; clear hh)
              go_roundg t
              case measure => omega
              case rel => exact ⟨l1 ++ [ch], rfl, H1.out.popc (by omega), by simp; omega, by omega, HBI.out.cls hch⟩
end Go.Proofs.Qxb6600795aDoor
