import Derived.Test.Qxb6604548aDoorFb
namespace Go.Proofs.Qxb6604548aDoor
open Go.RowKit

set_option maxHeartbeats 2000000 in
set_option maxRecDepth 100000 in
theorem isLit_any (s : ByteArray) (n1 n2 n3 : Nat) (w : World) (hs : s.size ≤ 1000) (hL : Lit3 s n1 n2 n3) : Calls Tryd.prog 7 #[.string s] w fun e w' => RB true w e w' := by
  have HL : Aside (Lit3 s n1 n2 n3) := hL
  have hp1 := hL.p1
  have hl1 := hL.le1
  have hl2 := hL.le2
  have hal := hL.all
  have hso := hL.some'
  clear hL
  have h0 : 0 < s.size := by omega
  have hn1s : n1 < s.size := by omega
  have h45 : ((s[0].toNat : Int) == 45) = false := by
    have := HL.out.d1 0 (by omega)
    rw [dgAt_in h0, digB] at this
    simp at this
    exact beq_eq_false_iff_ne.2 (by omega)
  have hnd : digB s[n1].toNat = false := by
    by_cases hq : n1 < n2
    · obtain ⟨_, ⟨_, h⟩, _⟩ := HL.out.pt hq
      rw [h]; rfl
    · obtain ⟨_, ⟨hz, h⟩, _⟩ := HL.out.ex (by omega)
      have : n2 = n1 := by omega
      subst this
      rw [h]; rfl
  have hn10 : ((n1 : Int) == 0) = false := beq_eq_false_iff_ne.2 (by omega)
  go_enter Tryd.func7, Tryd.ntmps7
  go_wp2_with fail
  go_loopg [3] n1 (fun kk ix wr => wr = w ∧ ∃ k : Nat, kk = n1 - k ∧ k ≤ n1 ∧ ix = .int .i64 k)
  case atStart => exact ⟨rfl, 0, rfl, Nat.zero_le _, rfl⟩
  case round =>
    obtain ⟨hwr, k, rfl, hk, rfl⟩ := hrel
    subst hwr
    by_cases hlt : k < n1
    · have hks : k < s.size := by omega
      have hdk : digB s[k].toNat = true := by rw [← dgAt_in hks]; exact HL.out.d1 k hlt
      clear hnd h45
      go_wp2_with (go_at_call 9; refine (zzDigit_t hdk _).mono ?_; rintro e w' ⟨rfl, hw⟩; rw [hw])
      go_roundg (n1 - (k + 1))
      case measure => omega
      case rel => exact ⟨rfl, k + 1, rfl, by omega, by go_num⟩
    · obtain rfl : k = n1 := by omega
      clear h45
      go_upto_if 43 with (go_at_call 9; refine (zzDigit_f hnd _).mono ?_; rintro e w' ⟨rfl, hw⟩; rw [hw])
      go_cut [3, 4, 5] (fun i _ mk wx => i = .int .i64 n2 ∧ mk = .bool (decide (k < n2)) ∧ wx = wr)
      case first =>
        by_cases hq : k < n2
        · obtain ⟨h2a, ⟨_, h46⟩, hdg⟩ := HL.out.pt hq
          have HDG : Aside (∀ i, k + 1 ≤ i → i < n2 → dgAt s i = true) := hdg
          have hc46 : ((s[k].toNat : Int) == 46) = true := by rw [h46]; rfl
          have hlt46 : (k : Int) < (s.size : Int) := by omega
          have hne : ((n2 : Int) == (k : Int) + 1) = false := beq_eq_false_iff_ne.2 (by omega)
          have HDT : Aside (decide (k < n2) = true) := decide_eq_true hq
          clear hdg h46 hnd
          rw [hc46]
          clear hc46
          go_wp2_with fail
          go_loopg [3] (n2 - (k + 1)) (fun kk ix wx => wx = wr ∧ ∃ j : Nat, kk = n2 - j ∧ k + 1 ≤ j ∧ j ≤ n2 ∧ ix = .int .i64 j)
          case atStart => exact ⟨rfl, k + 1, rfl, Nat.le_refl _, by omega, by go_num⟩
          case round =>
            obtain ⟨hwx, j, rfl, hj1, hj2, rfl⟩ := hrel
            subst hwx
            by_cases hlt2 : j < n2
            · have hjs : j < s.size := by omega
              have hdj : digB s[j].toNat = true := by rw [← dgAt_in hjs]; exact HDG.out j hj1 hlt2
              go_wp2_with (go_at_call 9; refine (zzDigit_t hdj _).mono ?_; rintro e w' ⟨rfl, hw⟩; rw [hw])
              go_roundg (n2 - (j + 1))
              case measure => omega
              case rel => exact ⟨rfl, j + 1, rfl, by omega, by omega, by go_num⟩
            · obtain rfl : j = n2 := by omega
              by_cases hend : j < s.size
              · obtain ⟨_, ⟨_, h101⟩, _⟩ := HL.out.ex (by omega)
                have hdj : digB s[j].toNat = false := by rw [h101]; rfl
                clear h101
                go_wp2_with (go_at_call 9; refine (zzDigit_f hdj _).mono ?_; rintro e w' ⟨rfl, hw⟩; rw [hw])
                go_meet
                case rel => exact ⟨rfl, by rw [HDT.out], rfl⟩
              · have hend' : ¬ (j : Int) < (s.size : Int) := by omega
                go_wp2
                go_meet
                case rel => exact ⟨rfl, by rw [HDT.out], rfl⟩
        · have hkn : k = n2 := by omega
          obtain ⟨_, ⟨hz, h101⟩, _⟩ := HL.out.ex (by omega)
          have hc46 : ((s[k].toNat : Int) == 46) = false := by
            subst hkn
            rw [h101]; rfl
          have HDT : Aside (decide (k < n2) = false) := decide_eq_false hq
          have HKN : Aside (k = n2) := hkn
          clear h101 hkn hnd
          go_wp2
          go_meet
          case rel => exact ⟨by rw [HKN.out], by rw [HDT.out], rfl⟩
      case rest =>
        obtain ⟨rfl, rfl, hwc⟩ := hcut
        subst hwc
        clear hnd
        by_cases hq : n2 < n3
        · obtain ⟨h4, ⟨hz1, h101⟩, ⟨hz2, hsg⟩, hdg⟩ := HL.out.ex hq
          have HDG : Aside (∀ i, n2 + 2 ≤ i → i < n3 → dgAt s i = true) := hdg
          have hc1 : ((s[n2].toNat : Int) == 101) = true := by rw [h101]; rfl
          have hlt1 : (n2 : Int) < (s.size : Int) := by omega
          have hne1 : ((n2 : Int) + 1 == (s.size : Int)) = false := beq_eq_false_iff_ne.2 (by omega)
          have hsg2 : ((s[n2 + 1].toNat : Int) != 43) = false ∨ (((s[n2 + 1].toNat : Int) != 43) = true ∧ ((s[n2 + 1].toNat : Int) != 45) = false) := by
            rcases hsg with h | h
            · left; rw [h]; rfl
            · right; rw [h]; exact ⟨rfl, rfl⟩
          clear hdg h101 hsg
          rcases hsg2 with hs1 | ⟨hs1, hs2⟩
          · skip
            have hge : ¬ ((n3 : Int) - ((n2 : Int) + 1 + 1) < 2) := by omega
            have heq : ((n3 : Int) == (s.size : Int)) = true := by rw [beq_iff_eq]; omega
            go_wp2_with fail
            go_loopg [3] (n3 - (n2 + 2)) (fun kk ix wx => wx = wc ∧ ∃ j : Nat, kk = n3 - j ∧ n2 + 2 ≤ j ∧ j ≤ n3 ∧ ix = .int .i64 j)
            case atStart => exact ⟨rfl, n2 + 2, rfl, Nat.le_refl _, by omega, by go_num⟩
            case round =>
              obtain ⟨hwx, j, rfl, hj1, hj2, rfl⟩ := hrel
              subst hwx
              by_cases hlt2 : j < n3
              · have hjs : j < s.size := by omega
                have hdj : digB s[j].toNat = true := by rw [← dgAt_in hjs]; exact HDG.out j hj1 hlt2
                go_wp2_with (go_at_call 9; refine (zzDigit_t hdj _).mono ?_; rintro e w' ⟨rfl, hw⟩; rw [hw])
                go_roundg (n3 - (j + 1))
                case measure => omega
                case rel => exact ⟨rfl, j + 1, rfl, by omega, by omega, by go_num⟩
              · obtain rfl : j = n3 := by omega
                have hend' : ¬ (j : Int) < (s.size : Int) := by omega
                go_wp2
                go_ret
                exact ⟨rfl, rfl⟩
          · skip
            have hge : ¬ ((n3 : Int) - ((n2 : Int) + 1 + 1) < 2) := by omega
            have heq : ((n3 : Int) == (s.size : Int)) = true := by rw [beq_iff_eq]; omega
            go_wp2_with fail
            go_loopg [3] (n3 - (n2 + 2)) (fun kk ix wx => wx = wc ∧ ∃ j : Nat, kk = n3 - j ∧ n2 + 2 ≤ j ∧ j ≤ n3 ∧ ix = .int .i64 j)
            case atStart => exact ⟨rfl, n2 + 2, rfl, Nat.le_refl _, by omega, by go_num⟩
            case round =>
              obtain ⟨hwx, j, rfl, hj1, hj2, rfl⟩ := hrel
              subst hwx
              by_cases hlt2 : j < n3
              · have hjs : j < s.size := by omega
                have hdj : digB s[j].toNat = true := by rw [← dgAt_in hjs]; exact HDG.out j hj1 hlt2
                go_wp2_with (go_at_call 9; refine (zzDigit_t hdj _).mono ?_; rintro e w' ⟨rfl, hw⟩; rw [hw])
                go_roundg (n3 - (j + 1))
                case measure => omega
                case rel => exact ⟨rfl, j + 1, rfl, by omega, by omega, by go_num⟩
              · obtain rfl : j = n3 := by omega
                have hend' : ¬ (j : Int) < (s.size : Int) := by omega
                go_wp2
                go_ret
                exact ⟨rfl, rfl⟩
        · have hn3 : n2 = s.size := by omega
          have hlt1 : ¬ (n2 : Int) < (s.size : Int) := by omega
          have hmk : decide (k < n2) = true := decide_eq_true (by omega)
          have heq : ((n2 : Int) == (s.size : Int)) = true := by rw [beq_iff_eq]; omega
          clear hn3
          go_wp2
          go_ret
          exact ⟨rfl, rfl⟩
end Go.Proofs.Qxb6604548aDoor
