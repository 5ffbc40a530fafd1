import Derived.Test.Qxb6604188aDoorB1
namespace Go.Proofs.Qxb6604188aDoor
open Go.RowKit

/-- The law returned true; nothing old has turned. -/
def RT (w : World) (e : Ending) (w' : World) : Prop := e = .returned (.bool true) ∧ Below w.heap.size w w'

theorem countSeps_at (s : ByteArray) (p q : Nat) (w : World) (hs : s.size ≤ 1048576) :
    Calls Tryd.prog 16 #[.string (s.extract p q)] w fun e w' => e = .returned (.int .i64 (cntR s p q)) ∧ w' = w := by
  have := countSepsB1_any (s.extract p q) w (by simp [maxLen]; omega)
  rw [Lib.extract_data] at this
  exact this
theorem allDigitsB1_t (s : ByteArray) (w : World) (hs : s.size ≤ maxLen) (h : allDig s.data.toList = true) : Calls Tryd.prog 14 #[.string s] w fun e w' => e = .returned (.bool true) ∧ w' = w := by
  have := allDigitsB1_any s w hs; rwa [h] at this
theorem allDigitsB1_f (s : ByteArray) (w : World) (hs : s.size ≤ maxLen) (h : allDig s.data.toList = false) : Calls Tryd.prog 14 #[.string s] w fun e w' => e = .returned (.bool false) ∧ w' = w := by
  have := allDigitsB1_any s w hs; rwa [h] at this
theorem isCanonNumberB1_t (s : ByteArray) (w : World) (hs : s.size ≤ maxLen) (hp : 0 < s.size) (h : isCanon s.data.toList = true) : Calls Tryd.prog 15 #[.string s] w fun e w' => e = .returned (.bool true) ∧ w' = w := by
  have := isCanonNumberB1_any s w hs hp; rwa [h] at this

set_option maxHeartbeats 1000000 in
set_option maxRecDepth 100000 in
theorem keeps_any (ao : Option Addr) (n c : Nat) (S : Nat → ByteArray) (s : ByteArray) (i : Int) (w : World) (hn : n ≤ maxLen) (hs : s.size ≤ maxLen) (hS : ∀ k, k < n → (S k).size ≤ maxLen) (hi : i ≤ 9223372036854775807)
    (hr : Rd w ao n S) (hnil : ao = none → n = 0 ∧ c = 0) :
    Calls Tryd.prog 4 #[.slice ao n c, .string s, .int .i64 i] w fun e w' => RT w e w' := by
  have HR : Aside (Rd w ao n S) := hr
  have HN : Aside (ao = none → n = 0 ∧ c = 0) := hnil
  have HZ := zzBytes12_any ao n c S s i w hn hs hS hr
  have HL := addListB1_any 0 ao n c S w hn hr
  clear hr hnil hS
  go_enter Tryd.func4, Tryd.ntmps4
  go_wp2_with fail
  refine HZ.mono ?_
  rintro e w' ⟨b, rfl, hb, hw⟩
  have hw2 := hw.symm
  subst hw2
  clear hw HZ
  cases b with
  | false =>
    go_wp2
    go_ret
    exact ⟨rfl, Below.refl _ _⟩
  | true =>
    obtain ⟨hn2, hs2⟩ := hb rfl
    clear hb hn hs
    go_wp2_with fail
    refine HL.mono ?_
    rintro e w' ⟨r, rfl, hw⟩
    have hw2 := hw.symm
    subst hw2
    clear hw HL
    go_wp2_with fail
    refine (addB1_any _ _ _).mono ?_
    rintro e w' ⟨r2, rfl, hr1, hr2, hw⟩
    have hw2 := hw.symm
    subst hw2
    clear hw
    by_cases hbig : 1048576 < r2
    · go_wp2
      go_ret
      exact ⟨rfl, Below.refl _ _⟩
    by_cases hneg : i < 0
    · go_wp2
      go_ret
      exact ⟨rfl, Below.refl _ _⟩
    go_wp2_with fail
    refine (clone_any ao n c S w hn2 HR.out HN.out).mono ?_
    rintro e w1 ⟨ao', rfl, hcl⟩
    have HCl : Aside (IsClone w ao n S ao' w1) := hcl
    clear hcl
    go_wp2_with fail
    refine (ZZScanLocal_any w1 ao' n (strL S n) s i hn2 hs2 (by omega) hi HCl.out.olds).mono ?_
    rintro e w2 ⟨ok, gs, q, v, rfl, hscan, hcur, hbel⟩
    have hrd : Rd w2 ao' n S := fun k hk => by
      obtain ⟨b, off, h1, h2⟩ := HCl.out.rd k hk
      exact ⟨b, off, h1, cell_later hbel h2⟩
    obtain ⟨a, c2, rfl, hgot, _⟩ := cur_rd hcur hrd
    have HB : Aside (Below w.heap.size w w2) := HCl.out.bel.trans (hbel.mono HCl.out.bel.size)
    have HRd : Aside (Rd w2 ao' n S) := hrd
    have HGot : Aside (Rd w2 a (n + gs.length) (T S n gs)) := hgot
    have HScan : Aside (Scan s gs i.toNat ok q) := hscan
    have hfew := scan_few hscan
    clear hrd hgot hscan hcur hbel HR HN HCl
    obtain ⟨p, rfl⟩ := Int.eq_ofNat_of_zero_le (show 0 ≤ i by omega)
    rw [Int.toNat_natCast] at HScan
    clear hr1 hr2
    go_wp2_with fail
    go_loopg [11] n (fun k t wr => ∃ j : Nat, k = n - j ∧ j ≤ n ∧ t = .int .i64 j ∧ ∃ m, wr = w2.drewN m)
    case atStart => exact ⟨0, rfl, Nat.zero_le _, rfl, 0, rfl⟩
    case round =>
      obtain ⟨j, rfl, hj, rfl, m, rfl⟩ := hrel
      by_cases hlt : j < n
      · obtain ⟨b1, o1, rfl, hc1⟩ := HRd.out j hlt
        obtain ⟨b2, o2, rfl, hc2⟩ := HGot.out j (by omega)
        rw [T_old hlt] at hc2
        have hlt2 : (j : Int) < (n : Int) + (gs.length : Int) := by omega
        have hlt3 : (j : Int) < (n : Int) := by omega
        go_wp2_with fail
        go_quiet (fail)
        go_wp2
        go_roundg (n - (j + 1))
        case measure => omega
        case rel => exact ⟨j + 1, rfl, by omega, by go_num, _, rfl⟩
      · go_wp2_with fail
        go_loopg [12] gs.length (fun k t wr => ∃ j2 : Nat, k = n + gs.length - j2 ∧ n ≤ j2 ∧ j2 ≤ n + gs.length ∧ t = .int .i64 j2 ∧ wr = w2.drewN m)
        case atStart => exact ⟨n, by omega, Nat.le_refl _, by omega, rfl, rfl⟩
        case round =>
          obtain ⟨j2, rfl, hj1, hj2, rfl, rfl⟩ := hrel
          by_cases hlt2 : j2 < n + gs.length
          · obtain ⟨b2, o2, rfl, hc2⟩ := HGot.out j2 hlt2
            have hgood := scan_good HScan.out _ (T_new (S := S) hj1 hlt2)
            generalize T S n gs j2 = g at hc2 hgood
            obtain ⟨hg0, hgl, hglab, hgcan⟩ := hgood
            have hE : g.toList.isEmpty = false := by rw [empty_iff]; exact decide_eq_false (by omega)
            have HGl : Aside (g.data.toList.all labP = true) := hglab
            have HGc : Aside (allDig g.data.toList = true → isCanon g.data.toList = true) := hgcan
            have hgm : g.size ≤ maxLen := by unfold maxLen; omega
            have hlt4 : (j2 : Int) < (n : Int) + (gs.length : Int) := by omega
            clear hglab hgcan
            go_wp2_with fail
            go_loopg [14] g.size (fun k t wr => ∃ d : Nat, k = g.size - d ∧ d ≤ g.size ∧ t = .int .i64 d ∧ wr = w2.drewN m)
            case atStart => exact ⟨0, rfl, Nat.zero_le _, rfl, rfl⟩
            case round =>
              obtain ⟨d, rfl, hd, rfl, rfl⟩ := hrel
              by_cases hlt5 : d < g.size
              · have hl : isLabZ g[d].toNat = true := all_at (p := labP) hlt5 HGl.out
                go_wp2_with (go_at_call 13; refine (isLabelB1_t _ _ hl).mono ?_; rintro e w' ⟨rfl, rfl⟩)
                go_roundg (g.size - (d + 1))
                case measure => omega
                case rel => exact ⟨d + 1, rfl, by omega, by go_num, rfl⟩
              · by_cases ha : allDig g.data.toList = true
                · have hcn := HGc.out ha
                  go_wp2_with (first | (go_at_call 14; refine (allDigitsB1_t _ _ hgm ha).mono ?_; rintro e w' ⟨rfl, rfl⟩) | (go_at_call 15; refine (isCanonNumberB1_t _ _ hgm hg0 hcn).mono ?_; rintro e w' ⟨rfl, rfl⟩))
                  go_roundg (n + gs.length - (j2 + 1))
                  case measure => omega
                  case rel => exact ⟨j2 + 1, rfl, by omega, by omega, by go_num, rfl⟩
                · have ha' : allDig g.data.toList = false := by simpa using ha
                  go_wp2_with (go_at_call 14; refine (allDigitsB1_f _ _ hgm ha').mono ?_; rintro e w' ⟨rfl, rfl⟩)
                  go_roundg (n + gs.length - (j2 + 1))
                  case measure => omega
                  case rel => exact ⟨j2 + 1, rfl, by omega, by omega, by go_num, rfl⟩
          · have HB2 : Aside (Below w.heap.size w (w2.drewN m)) := HB.out.trans ⟨rfl, rfl, rfl, Nat.le_refl _, fun _ _ => rfl⟩
            clear HB HRd HGot
            by_cases hpo : s.size < p
            · obtain ⟨rfl, rfl, rfl⟩ := scan_out HScan.out hpo
              clear HScan
              go_wp2
              go_ret
              exact ⟨rfl, HB2.out⟩
            · have hq1 := scan_in HScan.out (by omega)
              have hpq := scan_le HScan.out
              cases ok with
              | true =>
                obtain ⟨f1, f2, f3, f4⟩ := scan_ok HScan.out
                have hne : ((q : Int) == (p : Int)) = false := beq_eq_false_iff_ne.2 (by omega)
                have HCnt := fun wx => countSeps_at s p q wx hs2
                generalize cntR s p q = z at f4 HCnt
                have F4 : Aside (gs.length = z + 1) := f4
                have hz : z ≤ 1048577 := by omega
                clear f4 HScan
                by_cases hql : q < s.size
                · rw [labAt_in hql] at f2
                  rw [sepAt_in hql] at f3
                  go_wp2_with (first | (go_at_call 16; refine (HCnt _).mono ?_; rintro e w' ⟨rfl, rfl⟩) | (go_at_call 13; refine (isLabelB1_f _ _ f2).mono ?_; rintro e w' ⟨rfl, rfl⟩) | (go_at_call 17; refine (isSepB1_f _ _ f3).mono ?_; rintro e w' ⟨rfl, rfl⟩))
                  go_ret
                  exact ⟨ret_bool (by have := F4.out; simp; omega), HB2.out⟩
                · clear f2 f3
                  go_wp2_with (go_at_call 16; refine (HCnt _).mono ?_; rintro e w' ⟨rfl, rfl⟩)
                  go_ret
                  exact ⟨ret_bool (by have := F4.out; simp; omega), HB2.out⟩
              | false =>
                obtain ⟨f2, f4⟩ := scan_no HScan.out
                have HCnt := fun wx => countSeps_at s p q wx hs2
                generalize cntR s p q = z at f4 HCnt
                have F4 : Aside (gs.length = z) := f4
                have hz : z ≤ 1048577 := by omega
                clear f4 HScan
                by_cases hql : q < s.size
                · rw [labAt_in hql] at f2
                  go_wp2_with (first | (go_at_call 16; refine (HCnt _).mono ?_; rintro e w' ⟨rfl, rfl⟩) | (go_at_call 13; refine (isLabelB1_f _ _ f2).mono ?_; rintro e w' ⟨rfl, rfl⟩))
                  go_ret
                  exact ⟨ret_bool (by have := F4.out; simp; omega), HB2.out⟩
                · clear f2
                  go_wp2_with (go_at_call 16; refine (HCnt _).mono ?_; rintro e w' ⟨rfl, rfl⟩)
                  go_ret
                  exact ⟨ret_bool (by have := F4.out; simp; omega), HB2.out⟩
end Go.Proofs.Qxb6604188aDoor
