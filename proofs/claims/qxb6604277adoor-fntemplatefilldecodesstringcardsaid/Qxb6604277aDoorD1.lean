import Derived.Test.Qxb6604277aDoorA9
namespace Go.Proofs.Qxb6604277aDoor
open Go.RowKit

/-- WHAT valuesBytes_b1 SAYS. -/
def VB (n : Nat) (V : Nat → ByteArray) (L : ByteArray → ByteArray) (w : World) (e : Ending) (w' : World) : Prop :=
  ∃ r : Int, e = .returned (.int .i64 r) ∧ 0 ≤ r ∧ r ≤ 1048577 ∧ (r ≤ 1048576 → ∀ k, k < n → (V k).toList.isEmpty = false → (L (V k)).size ≤ 1048576) ∧ w' = w
theorem vb_big {n : Nat} {V : Nat → ByteArray} {L : ByteArray → ByteArray} {w : World} {e : Ending} (h : e = .returned (.int .i64 1048577)) : VB n V L w e w := ⟨_, h, by omega, by omega, fun h => absurd h (by omega), rfl⟩
def LS (V : Nat → ByteArray) (L : ByteArray → ByteArray) (k : Nat) : Prop := ∀ j, j < k → (V j).toList.isEmpty = false → (L (V j)).size ≤ 1048576
theorem LS.snoc {V : Nat → ByteArray} {L : ByteArray → ByteArray} {k : Nat} (h : LS V L k) (hk : (V k).toList.isEmpty = false → (L (V k)).size ≤ 1048576) : LS V L (k + 1) := fun j hj => by
  by_cases e : j = k
  · rw [e]; exact hk
  · exact h j (by omega)

set_option maxHeartbeats 400000 in
theorem valuesBytes_any (a1 : Option Addr) (n c1 : Nat) (V : Nat → ByteArray) (mo : Option Nat) (L : ByteArray → ByteArray) (w : World) (hn : n ≤ maxLen) (hS : ∀ k, k < n → (V k).size ≤ maxLen) (hr : Rd w a1 n V) (hL : Looks (.map mo) L w) :
    Calls Tryd.prog 11 #[.slice a1 n c1, .map mo] w fun e w' => VB n V L w e w' := by
  unfold maxLen at hn
  have HL : Aside (Looks (.map mo) L w) := hL
  clear hL
  by_cases hbig : n ≤ 65536
  · go_enter Tryd.func11, Tryd.ntmps11
    go_wp2_with fail
    go_loopg [5, 6] n (fun kk t ix wr => wr = w ∧ ∃ k : Nat, ∃ r : Int, kk = n - k ∧ k ≤ n ∧ ix = .int .i64 k ∧ t = .int .i64 r ∧ 0 ≤ r ∧ r ≤ 1048576 ∧ LS V L k)
    case atStart => exact ⟨rfl, 0, _, rfl, Nat.zero_le _, rfl, rfl, by omega, by omega, fun j hj => absurd hj (by omega)⟩
    case round =>
      obtain ⟨rfl, k, r, rfl, hk, rfl, rfl, hq1, hq2, hall⟩ := hrel
      have HA : Aside (LS V L k) := hall
      clear hall
      by_cases hlt : k < n
      · obtain ⟨b, off, rfl, hc⟩ := hr k hlt
        have hSk := hS k hlt
        obtain ⟨hlk, hls⟩ := HL.out (V k) hSk
        unfold maxLen at hSk hls
        cases hvE : (V k).toList.isEmpty with
        | true =>
          clear hlk hls
          have HA2 : Aside (LS V L (k + 1)) := HA.out.snoc (fun h => by rw [hvE] at h; cases h)
          go_wp2
          go_roundg (n - (k + 1))
          case measure => omega
          case rel => exact ⟨rfl, k + 1, r, rfl, by omega, by go_num, rfl, by omega, by omega, HA2.out⟩
        | false =>
          generalize hlv : L (V k) = lv at *
          have HLV : Aside (L (V k) = lv) := hlv
          clear hlv
          by_cases h1 : lv.size ≤ 1048576
          · by_cases h2 : r + lv.size ≤ 1048576
            · have HA2 : Aside (LS V L (k + 1)) := HA.out.snoc (fun _ => by rw [HLV.out]; exact h1)
              go_wp2
              go_roundg (n - (k + 1))
              case measure => omega
              case rel => exact ⟨rfl, k + 1, r + lv.size, rfl, by omega, by go_num, rfl, by omega, by omega, HA2.out⟩
            · go_wp2
              go_ret
              exact vb_big rfl
          · go_wp2
            go_ret
            exact vb_big rfl
      · obtain rfl : k = n := by omega
        go_wp2
        go_ret
        exact ⟨r, rfl, by omega, by omega, fun _ => HA.out, rfl⟩
  · go_enter Tryd.func11, Tryd.ntmps11
    go_wp2
    go_ret
    exact vb_big rfl

def RetDc (X V : Nat → ByteArray) (n : Nat) (w : World) (e : Ending) (w' : World) : Prop := ∃ b : Bool, e = .returned (.bool b) ∧ (b = true → DecOK X V n n) ∧ w' = w
theorem DecOK.snoc {X V : Nat → ByteArray} {n k : Nat} (h : DecOK X V n k) (h1 : (V k).toList.isEmpty = false → IsNm (V k)) (h2 : (V k).toList.isEmpty = true → k + 1 < n → (X k).data.toList.getLast? ≠ some 36) : DecOK X V n (k + 1) := fun j hj => by
  by_cases e : j = k
  · rw [e]; exact ⟨h1, h2⟩
  · exact h j (by omega)
theorem last_dol {x : ByteArray} (h : x.data.toList.getLast? = some 36) : ∃ h1 : x.size - 1 < x.size, x[x.size - 1] = 36 := by
  rw [List.getLast?_eq_getElem?] at h
  obtain ⟨h1, h2⟩ := List.getElem?_eq_some_iff.1 h
  have e : x.data.toList.length = x.size := (Lib.size_eq x).symm
  have h3 : x.size - 1 < x.size := by rw [← e]; exact h1
  refine ⟨h3, ?_⟩
  have : x[x.size - 1] = x.data.toList[x.data.toList.length - 1] := by simp [e]; rfl
  rw [this]; exact h2

set_option maxHeartbeats 400000 in
theorem decodable_any (a1 a2 : Option Addr) (n c1 c2 : Nat) (X V : Nat → ByteArray) (w : World) (hn : n ≤ 65536) (hX : ∀ k, k < n → (X k).size ≤ 1048576) (hV : ∀ k, k < n → (V k).size ≤ 1048576) (hr1 : Rd w a1 n X) (hr2 : Rd w a2 n V) :
    Calls Tryd.prog 12 #[.slice a1 n c1, .slice a2 n c2] w fun e w' => RetDc X V n w e w' := by
  have HX : Aside (∀ k, k < n → (X k).size ≤ 1048576) := hX
  have HV : Aside (∀ k, k < n → (V k).size ≤ 1048576) := hV
  clear hX hV
  go_enter Tryd.func12, Tryd.ntmps12
  go_wp2_with fail
  go_loopg [5] n (fun kk ix wr => wr = w ∧ ∃ k : Nat, kk = n - k ∧ k ≤ n ∧ ix = .int .i64 k ∧ DecOK X V n k)
  case atStart => exact ⟨rfl, 0, rfl, Nat.zero_le _, rfl, fun j hj => absurd hj (by omega)⟩
  case round =>
    obtain ⟨rfl, k, rfl, hk, rfl, hall⟩ := hrel
    have HA : Aside (DecOK X V n k) := hall
    clear hall
    by_cases hlt : k < n
    · obtain ⟨b1, o1, rfl, q1⟩ := hr1 k hlt
      obtain ⟨b2, o2, rfl, q2⟩ := hr2 k hlt
      have hxs := HX.out k hlt
      have hvs := HV.out k hlt
      have hlt3 : (k : Int) < (n : Int) := by omega
      cases hvE : (V k).toList.isEmpty with
      | false =>
        go_wp2_with fail
        refine (isName_any (V k) _ (by unfold maxLen; omega)).mono ?_
        rintro e w' ⟨b, rfl, hb, hw⟩
        obtain rfl := hw.symm
        have HB : Aside (b = true ↔ IsNm (V k)) := hb
        clear hb hw
        cases b with
        | false =>
          go_wp2
          go_ret
          exact ⟨false, rfl, (fun h => by cases h), rfl⟩
        | true =>
          have HA2 : Aside (DecOK X V n (k + 1)) := HA.out.snoc (fun _ => HB.out.1 rfl) (fun h => by rw [hvE] at h; cases h)
          clear HB
          go_wp2
          go_roundg (n - (k + 1))
          case measure => omega
          case rel => exact ⟨rfl, k + 1, rfl, by omega, by go_num, HA2.out⟩
      | true =>
        have stp : (k + 1 < n → (X k).data.toList.getLast? ≠ some 36) → DecOK X V n (k + 1) := fun h => HA.out.snoc (fun h => by rw [hvE] at h; cases h) (fun _ => h)
        have HSt : Aside ((k + 1 < n → (X k).data.toList.getLast? ≠ some 36) → DecOK X V n (k + 1)) := stp
        clear stp
        by_cases h1 : k + 1 < n
        · have h1' : (k : Int) + 1 < (n : Int) := by omega
          by_cases h2 : 0 < (X k).size
          · have h2' : (0 : Int) < ((X k).size : Int) := by omega
            have h3 : (X k).size - 1 < (X k).size := by omega
            cases hd : (((X k)[(X k).size - 1].toNat : Int) == 36) with
            | true =>
              go_wp2
              go_ret
              exact ⟨false, rfl, (fun h => by cases h), rfl⟩
            | false =>
              have HA2 : Aside (DecOK X V n (k + 1)) := HSt.out (fun _ h => by
                obtain ⟨_, h36⟩ := last_dol h
                rw [h36] at hd; cases hd)
              clear HSt
              go_wp2
              go_roundg (n - (k + 1))
              case measure => omega
              case rel => exact ⟨rfl, k + 1, rfl, by omega, by go_num, HA2.out⟩
          · have HA2 : Aside (DecOK X V n (k + 1)) := HSt.out (fun _ h => by
              obtain ⟨h3, _⟩ := last_dol h
              omega)
            have h2' : ¬ (0 : Int) < ((X k).size : Int) := by omega
            clear HSt
            go_wp2
            go_roundg (n - (k + 1))
            case measure => omega
            case rel => exact ⟨rfl, k + 1, rfl, by omega, by go_num, HA2.out⟩
        · have HA2 : Aside (DecOK X V n (k + 1)) := HSt.out (fun h => absurd h h1)
          have h1' : ¬ (k : Int) + 1 < (n : Int) := by omega
          clear HSt
          go_wp2
          go_roundg (n - (k + 1))
          case measure => omega
          case rel => exact ⟨rfl, k + 1, rfl, by omega, by go_num, HA2.out⟩
    · obtain rfl : k = n := by omega
      go_wp2
      go_ret
      exact ⟨true, rfl, (fun _ => HA.out), rfl⟩
end Go.Proofs.Qxb6604277aDoor
