import Derived.Test.Qxb6604188aDoorB3
namespace Go.Proofs.Qxb6604188aDoor
open Go.RowKit

def TrueDr (w : World) (e : Ending) (w' : World) : Prop := e = .returned (.bool true) ∧ ∃ m, w' = w.drewN m
set_option maxHeartbeats 400000 in
theorem sameList_any (a1 a2 : Option Addr) (n c1 c2 : Nat) (S : Nat → ByteArray) (w : World) (hn : n ≤ 16777216) (h1 : Rd w a1 n S) (h2 : Rd w a2 n S) :
    Calls Tryd.prog 11 #[.slice a1 n c1, .slice a2 n c2] w fun e w' => TrueDr w e w' := by
  go_enter Tryd.func11, Tryd.ntmps11
  go_wp2_with fail
  go_loopg [5] n (fun k t wr => ∃ j : Nat, k = n - j ∧ j ≤ n ∧ t = .int .i64 j ∧ ∃ m, wr = w.drewN m)
  case atStart => exact ⟨0, rfl, Nat.zero_le _, rfl, 0, rfl⟩
  case round =>
    obtain ⟨j, rfl, hj, rfl, m, rfl⟩ := hrel
    by_cases hlt : j < n
    · obtain ⟨b1, o1, rfl, hc1⟩ := h1 j hlt
      obtain ⟨b2, o2, rfl, hc2⟩ := h2 j hlt
      have hlt3 : (j : Int) < (n : Int) := by omega
      have H1 : Aside (Rd w (some ⟨b1, o1, none⟩) n S) := h1
      have H2 : Aside (Rd w (some ⟨b2, o2, none⟩) n S) := h2
      clear h1 h2
      go_wp2_with fail
      go_quiet (fail)
      go_wp2
      go_roundg (n - (j + 1))
      case measure => omega
      case rel => exact ⟨j + 1, rfl, by omega, by go_num, _, rfl⟩
    · go_wp2
      go_ret
      exact ⟨rfl, m, rfl⟩

set_option maxHeartbeats 1000000 in
set_option maxRecDepth 100000 in
theorem split_any (ao : Option Addr) (n c : Nat) (S : Nat → ByteArray) (s : ByteArray) (i : Int) (w : World) (hn : n ≤ maxLen) (hs : s.size ≤ maxLen) (hS : ∀ k, k < n → (S k).size ≤ maxLen) (hi : i ≤ 9223372036854775807)
    (hr : Rd w ao n S) (hnil : ao = none → n = 0 ∧ c = 0) :
    Calls Tryd.prog 3 #[.slice ao n c, .string s, .int .i64 i] w fun e w' => RT w e w' := by
  have HR : Aside (Rd w ao n S) := hr
  have HN : Aside (ao = none → n = 0 ∧ c = 0) := hnil
  have HZ := zzBytes5_any ao n c S s i w hn hs hS hr
  have HL := addListB1_any 0 ao n c S w hn hr
  clear hr hnil hS
  go_enter Tryd.func3, Tryd.ntmps3
  go_wp2_with fail
  refine HZ.mono ?_
  rintro e w' ⟨b, rfl, hb, hw⟩
  have hw2 := hw.symm
  subst hw2
  clear hw HZ
  cases b with
  | false =>
    go_wp2
    go_ret
    exact ⟨rfl, Below.refl _ _⟩
  | true =>
    obtain ⟨hn2, hs2⟩ := hb rfl
    clear hb hn hs
    go_wp2_with fail
    refine HL.mono ?_
    rintro e w' ⟨r, rfl, hw⟩
    have hw2 := hw.symm
    subst hw2
    clear hw HL
    go_wp2_with fail
    refine (addB1_any _ _ _).mono ?_
    rintro e w' ⟨r2, rfl, hr1, hr2, hw⟩
    have hw2 := hw.symm
    subst hw2
    clear hw
    by_cases hbig : 1048576 < r2
    · go_wp2
      go_ret
      exact ⟨rfl, Below.refl _ _⟩
    by_cases hneg : i < 0
    · go_wp2
      go_ret
      exact ⟨rfl, Below.refl _ _⟩
    go_wp2_with fail
    refine (clone_any ao n c S w hn2 HR.out HN.out).mono ?_
    rintro e w1 ⟨ao', rfl, hcl⟩
    have HCl : Aside (IsClone w ao n S ao' w1) := hcl
    clear hcl
    obtain ⟨p, rfl⟩ := Int.eq_ofNat_of_zero_le (show 0 ≤ i by omega)
    go_wp2_with fail
    refine (ZZScanLocal_any w1 ao' n (strL S n) s p hn2 hs2 (by omega) hi HCl.out.olds).mono ?_
    rintro e w2 ⟨ok, gs, q, v, rfl, hscan, hcur, hbel⟩
    rw [Int.toNat_natCast] at hscan
    have hrd : Rd w2 ao' n S := fun k hk => by
      obtain ⟨b, off, h1, h2⟩ := HCl.out.rd k hk
      exact ⟨b, off, h1, cell_later hbel h2⟩
    have hn0 : ao' = none → n = 0 ∧ n = 0 := fun h => ⟨HCl.out.olds.2.1 h, HCl.out.olds.2.1 h⟩
    obtain ⟨a, c2, rfl, hgot, hnil1⟩ := cur_rd hcur hrd
    have HB : Aside (Below w.heap.size w w2) := HCl.out.bel.trans (hbel.mono HCl.out.bel.size)
    have HRd : Aside (Rd w2 ao' n S) := hrd
    have HGot : Aside (Rd w2 a (n + gs.length) (T S n gs)) := hgot
    have HScan : Aside (Scan s gs p ok q) := hscan
    have HN1 : Aside (a.isNone = (ao'.isNone && gs.isEmpty)) := hnil1
    have HN0 : Aside (ao' = none → n = 0 ∧ n = 0) := hn0
    have hfew := scan_few hscan
    clear hrd hgot hscan hcur hbel HR HN HCl hnil1 hn0
    go_wp2_with fail
    refine (model_any ao' n n S s p w2 hn2 hs2 hi HRd.out HN0.out).mono ?_
    rintro e w3 ⟨ok', gs', q', a', c3, rfl, hscan', hgot', hnil', hbel'⟩
    obtain ⟨rfl, rfl, rfl⟩ := scan_det HScan.out hscan'
    have hg2 : Rd w3 a (n + gs.length) (T S n gs) := fun k hk => by
      obtain ⟨b, off, h1, h2⟩ := HGot.out k hk
      exact ⟨b, off, h1, cell_later hbel' h2⟩
    have HS := sameList_any a a' (n + gs.length) c2 c3 (T S n gs) w3 (by omega) hg2 hgot'
    have HE : Aside (a.isNone = a'.isNone) := by rw [HN1.out, hnil']; rfl
    have HB3 : Aside (Below w.heap.size w w3) := HB.out.trans (hbel'.mono HB.out.size)
    have e1 := nil22 a (n + gs.length) c2
    have e2 := nil22 a' (n + gs.length) c3
    clear hg2 hgot' hnil' hbel' hscan' HScan HGot HRd HN1 HN0 HB
    cases ok
    all_goals
      go_wp2_with fail
      refine HS.mono ?_
      rintro e w' ⟨rfl, m, rfl⟩
      go_wp2
      go_ret
      refine ⟨ret_bool ?_, HB3.out.trans ⟨rfl, rfl, rfl, Nat.le_refl _, fun _ _ => rfl⟩⟩
      rw [HE.out]; simp
end Go.Proofs.Qxb6604188aDoor
