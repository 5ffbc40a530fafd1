import Derived.Test.Qxb6604548aDoorGe
import Derived.Test.Qxb6604548aDoorGb
namespace Go.Proofs.Qxb6604548aDoor
open Go.RowKit

theorem two_a {n : Nat} (h : n < 10) : exp2 n = 48 :: Lib.decDigits n := by
  rw [Lib.decDigits, dif_pos h, exp2, if_pos h]
  rfl
theorem two_b {n : Nat} (h : ¬ n < 10) (h2 : n < 100) : exp2 n = Lib.decDigits n := by
  rw [Lib.decDigits, dif_neg h, Lib.decDigits, dif_pos (by omega), exp2, if_neg h, if_pos h2]
  rfl
def RU (w : World) (l : List UInt8) (e : Ending) (w' : World) : Prop := e = .returned (.string ⟨l.toArray⟩) ∧ Below w.heap.size w w'
theorem twoDigits_any (n : Nat) (w : World) (hn : n < 100) : Calls Tryd.prog 12 #[.int .i64 n] w fun e w' => RU w (exp2 n) e w' := by
  have HU : ∀ wx, Calls Tryd.prog 11 #[.int .u64 n] wx fun e w' => e = .returned (.string ⟨(Lib.decDigits n).toArray⟩) ∧ Below wx.heap.size wx w' := fun wx => utoa_any n wx (by omega)
  go_enter Tryd.func12, Tryd.ntmps12
  by_cases h : n < 10
  · have HT : Aside (exp2 n = 48 :: Lib.decDigits n) := two_a h
    have h' : (n : Int) < 10 := by omega
    go_wp2_with fail
    refine (HU w).mono ?_
    rintro e w2 ⟨rfl, h2⟩
    have HB2 : Aside (Below w.heap.size w w2) := h2
    clear h2 HU
    have hsz : (⟨(Lib.decDigits n).toArray⟩ : ByteArray).size ≤ 100 := by
      rw [Lib.size_eq, Lib.decDigits, dif_pos h]
      show 1 ≤ 100
      decide
    have HS : Aside ((⟨(Lib.decDigits n).toArray⟩ : ByteArray).data.toList = Lib.decDigits n) := by rw [Aside]
    generalize (⟨(Lib.decDigits n).toArray⟩ : ByteArray) = s at *
    go_wp2
    go_ret
    refine ⟨?_, HB2.out⟩
    rw [HT.out, ← HS.out]
    exact congrArg (fun x => Ending.returned (.string x)) (ba_eq (by simp))
  · have HT : Aside (exp2 n = Lib.decDigits n) := two_b h hn
    have h' : ¬ (n : Int) < 10 := by omega
    go_wp2_with fail
    refine (HU w).mono ?_
    rintro e w2 ⟨rfl, h2⟩
    have HB2 : Aside (Below w.heap.size w w2) := h2
    clear h2 HU
    go_wp2
    go_ret
    refine ⟨?_, HB2.out⟩
    rw [HT.out]
    rfl
theorem u8_101 {x : UInt8} (h : (x.toNat : Int) = 101) : x = 101 := UInt8.toNat_inj.1 (by have : (101 : UInt8).toNat = 101 := rfl; omega)
theorem u8_48 {x : UInt8} (h : (x.toNat : Int) = 48) : x = 48 := UInt8.toNat_inj.1 (by have : (48 : UInt8).toNat = 48 := rfl; omega)
theorem drop_at {s : ByteArray} {k : Nat} (h : k < s.size) : s.data.toList.drop k = s[k] :: s.data.toList.drop (k + 1) := by
  rw [List.drop_eq_getElem_cons (by rw [← Lib.size_eq]; exact h)]
  rfl
def RN (n : Nat) (w : World) (e : Ending) (w' : World) : Prop := e = .returned (.int .i64 n) ∧ w' = w
set_option maxHeartbeats 1000000 in
set_option maxRecDepth 100000 in
theorem sig_any (s : ByteArray) (w : World) (hs : s.size ≤ 1000) : Calls Tryd.prog 8 #[.string s] w fun e w' => RN (sig s.data.toList 0 false) w e w' := by
  generalize hR : sig s.data.toList 0 false = R
  have HR : Aside (sig (s.data.toList.drop 0) 0 false = R) := by rw [Aside]; simpa using hR
  clear hR
  go_enter Tryd.func8, Tryd.ntmps8
  go_wp2_with fail
  go_loopg [3, 4, 5] s.size (fun kk cv sv iv wr => wr = w ∧ ∃ (k c : Nat) (sn : Bool), kk = s.size - k ∧ k ≤ s.size ∧ c ≤ k ∧ iv = .int .i64 k ∧ cv = .int .i64 c ∧ sv = .bool sn ∧ Aside (sig (s.data.toList.drop k) c sn = R))
  case atStart => exact ⟨rfl, 0, 0, false, rfl, Nat.zero_le _, Nat.le_refl _, rfl, rfl, rfl, HR⟩
  case round =>
    obtain ⟨hwr, k, c, sn, rfl, hk, hck, rfl, rfl, rfl, HS⟩ := hrel
    subst hwr
    clear HR
    by_cases hlt : k < s.size
    · have hd := drop_at hlt
      have HD : Aside (s.data.toList.drop k = s[k] :: s.data.toList.drop (k + 1)) := hd
      clear hd
      have hlt' : (k : Int) < (s.size : Int) := by omega
      by_cases h1 : s[k] = 101
      · have HF : Aside (c = R) := by
          rw [Aside, ← HS.out, HD.out, sig, if_pos h1]
        have hc1 : ((s[k].toNat : Int) == 101) = true := by rw [h1]; rfl
        clear h1
        go_wp2_with fail
        go_ret
        exact ⟨by rw [HF.out]; rfl, rfl⟩
      · have hc1 : ((s[k].toNat : Int) == 101) = false := beq_eq_false_iff_ne.2 (fun h => h1 (u8_101 h))
        cases hdg : digB s[k].toNat with
        | false =>
          have HF : Aside (sig (s.data.toList.drop (k + 1)) c sn = R) := by
            rw [Aside, ← HS.out, HD.out, sig, if_neg h1, if_neg (by rw [hdg]; decide)]
          clear h1
          go_wp2_with (go_at_call 9; refine (zzDigit_f hdg _).mono ?_; rintro e w' ⟨rfl, hw⟩; rw [hw])
          go_roundg (s.size - (k + 1))
          case measure => omega
          case rel => exact ⟨rfl, k + 1, c, sn, rfl, by omega, by omega, by go_num, rfl, rfl, HF⟩
        | true =>
          by_cases h48 : s[k] = 48
          · have hc2 : ((s[k].toNat : Int) != 48) = false := by rw [h48]; rfl
            cases sn with
            | true =>
              have HF : Aside (sig (s.data.toList.drop (k + 1)) (c + 1) true = R) := by
                rw [Aside, ← HS.out, HD.out, sig, if_neg h1, if_pos hdg, if_pos (.inl rfl)]
              clear h1 h48
              go_wp2_with (go_at_call 9; refine (zzDigit_t hdg _).mono ?_; rintro e w' ⟨rfl, hw⟩; rw [hw])
              go_roundg (s.size - (k + 1))
              case measure => omega
              case rel => exact ⟨rfl, k + 1, c + 1, true, rfl, by omega, by omega, by go_num, by go_num, rfl, HF⟩
            | false =>
              have HF : Aside (sig (s.data.toList.drop (k + 1)) c false = R) := by
                rw [Aside, ← HS.out, HD.out, sig, if_neg h1, if_pos hdg, if_neg (by simp [h48])]
              clear h1 h48
              go_wp2_with (go_at_call 9; refine (zzDigit_t hdg _).mono ?_; rintro e w' ⟨rfl, hw⟩; rw [hw])
              go_roundg (s.size - (k + 1))
              case measure => omega
              case rel => exact ⟨rfl, k + 1, c, false, rfl, by omega, by omega, by go_num, rfl, rfl, HF⟩
          · have hc2 : ((s[k].toNat : Int) != 48) = true := bne_iff_ne.2 (fun h => h48 (u8_48 h))
            have HF : Aside (sig (s.data.toList.drop (k + 1)) (c + 1) true = R) := by
              rw [Aside, ← HS.out, HD.out, sig, if_neg h1, if_pos hdg, if_pos (.inr h48)]
            clear h1 h48
            go_wp2_with (go_at_call 9; refine (zzDigit_t hdg _).mono ?_; rintro e w' ⟨rfl, hw⟩; rw [hw])
            go_roundg (s.size - (k + 1))
            case measure => omega
            case rel => exact ⟨rfl, k + 1, c + 1, true, rfl, by omega, by omega, by go_num, by go_num, rfl, HF⟩
    · obtain rfl : k = s.size := by omega
      have HF : Aside (c = R) := by
        rw [Aside, ← HS.out, List.drop_eq_nil_of_le (by rw [← Lib.size_eq]; exact Nat.le_refl _), sig]
      go_wp2
      go_ret
      exact ⟨by rw [HF.out]; rfl, rfl⟩
end Go.Proofs.Qxb6604548aDoor
