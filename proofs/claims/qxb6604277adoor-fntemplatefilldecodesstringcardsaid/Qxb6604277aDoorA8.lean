import Derived.Test.Qxb6604277aDoorA7
namespace Go.Proofs.Qxb6604277aDoor
open Go.RowKit

def st (c : Nat) : Bool := (decide (97 ≤ c) && decide (c ≤ 122)) || (decide (65 ≤ c) && decide (c ≤ 90)) || decide (c = 95)
def ct (c : Nat) : Bool := st c || (decide (48 ≤ c) && decide (c ≤ 57)) || decide (c = 46)
def RetBo (b : Bool) (w : World) (e : Ending) (w' : World) : Prop := e = .returned (.bool b) ∧ w' = w

theorem starts_any (c : Nat) (w : World) : Calls Tryd.prog 23 #[.int .u8 c] w fun e w' => RetBo (st c) w e w' := by
  by_cases h1 : 97 ≤ c ∧ c ≤ 122
  · obtain ⟨h1, h2⟩ := h1
    have e1 : (97 : Int) ≤ (c : Int) := by omega
    have e2 : (c : Int) ≤ 122 := by omega
    go_enter Tryd.func23, Tryd.ntmps23
    go_wp2
    go_ret
    exact ⟨by simp [st, h1, h2], rfl⟩
  · have d1 : ¬ ((97 : Int) ≤ (c : Int)) ∨ ((97 : Int) ≤ (c : Int) ∧ ¬ ((c : Int) ≤ 122)) := by omega
    by_cases h3 : 65 ≤ c ∧ c ≤ 90
    · obtain ⟨h3, h4⟩ := h3
      have e1 : (65 : Int) ≤ (c : Int) := by omega
      have e2 : (c : Int) ≤ 90 := by omega
      have e3 : ¬ ((97 : Int) ≤ (c : Int)) := by omega
      go_enter Tryd.func23, Tryd.ntmps23
      go_wp2
      go_ret
      exact ⟨by simp [st, h3, h4], rfl⟩
    · have d2 : ¬ ((65 : Int) ≤ (c : Int)) ∨ ((65 : Int) ≤ (c : Int) ∧ ¬ ((c : Int) ≤ 90)) := by omega
      by_cases h5 : c = 95
      · subst h5
        go_enter Tryd.func23, Tryd.ntmps23
        go_wp2
        go_ret
        exact ⟨rfl, rfl⟩
      · have e5 : ((c : Int) == 95) = false := by simp; omega
        have hst : st c = false := by simp [st]; omega
        rw [hst]
        rcases d1 with d1 | ⟨d1, d1'⟩
        · rcases d2 with d2 | ⟨d2, d2'⟩
          · go_enter Tryd.func23, Tryd.ntmps23
            go_wp2
            go_ret
            exact ⟨rfl, rfl⟩
          · go_enter Tryd.func23, Tryd.ntmps23
            go_wp2
            go_ret
            exact ⟨rfl, rfl⟩
        · have d3 : (65 : Int) ≤ (c : Int) := by omega
          have d4 : ¬ (c : Int) ≤ 90 := by omega
          go_enter Tryd.func23, Tryd.ntmps23
          go_wp2
          go_ret
          exact ⟨rfl, rfl⟩

theorem cont_any (c : Nat) (w : World) : Calls Tryd.prog 24 #[.int .u8 c] w fun e w' => RetBo (ct c) w e w' := by
  go_enter Tryd.func24, Tryd.ntmps24
  go_wp2_with fail
  refine (starts_any c w).mono ?_
  rintro e w' ⟨rfl, hw⟩
  obtain rfl := hw.symm
  clear hw
  cases hs : st c with
  | true =>
    go_wp2
    go_ret
    exact ⟨by simp [ct, hs], rfl⟩
  | false =>
    by_cases h1 : 48 ≤ c
    · have e1 : (48 : Int) ≤ (c : Int) := by omega
      by_cases h2 : c ≤ 57
      · have e2 : (c : Int) ≤ 57 := by omega
        go_wp2
        go_ret
        exact ⟨by simp [ct, h1, h2], rfl⟩
      · have e2 : decide ((c : Int) ≤ 57) = false := by simp; omega
        have e3 : ((c : Int) == 46) = false := by simp; omega
        go_wp2
        go_ret
        exact ⟨by rw [show ct c = false by (rw [ct, hs]; simp; omega)]; rfl, rfl⟩
    · have e1 : ¬ (48 : Int) ≤ (c : Int) := by omega
      by_cases h2 : c = 46
      · subst h2
        go_wp2
        go_ret
        exact ⟨by simp [ct], rfl⟩
      · have e3 : ((c : Int) == 46) = false := by simp; omega
        go_wp2
        go_ret
        exact ⟨by rw [show ct c = false by (rw [ct, hs]; simp; omega)]; rfl, rfl⟩

def IsNm (p : ByteArray) : Prop := ∀ (i : Nat) (h : i < p.size), (i = 0 → st p[i].toNat = true) ∧ (0 < i → ct p[i].toNat = true)
def NmTo (p : ByteArray) (k : Nat) : Prop := ∀ (i : Nat) (h : i < p.size), i < k → (i = 0 → st p[i].toNat = true) ∧ (0 < i → ct p[i].toNat = true)
def RetN (p : ByteArray) (w : World) (e : Ending) (w' : World) : Prop := ∃ b : Bool, e = .returned (.bool b) ∧ (b = true ↔ IsNm p) ∧ w' = w

set_option maxHeartbeats 400000 in
theorem isName_any (p : ByteArray) (w : World) (hs : p.size ≤ maxLen) : Calls Tryd.prog 20 #[.string p] w fun e w' => RetN p w e w' := by
  unfold maxLen at hs
  go_enter Tryd.func20, Tryd.ntmps20
  by_cases h0 : p.size = 0
  · have h0' : ((p.size : Int) == 0) = true := by rw [beq_iff_eq]; omega
    go_wp2
    go_ret
    exact ⟨true, rfl, ⟨fun _ i h => absurd h (by omega), fun _ => rfl⟩, rfl⟩
  · have h0' : ((p.size : Int) == 0) = false := beq_eq_false_iff_ne.2 (by omega)
    have hp : 0 < p.size := by omega
    go_wp2_with fail
    refine (starts_any p[0].toNat w).mono ?_
    rintro e w' ⟨rfl, hw⟩
    obtain rfl := hw.symm
    clear hw
    cases hst : st p[0].toNat with
    | false =>
      go_wp2
      go_ret
      refine ⟨false, rfl, ⟨(fun h => by cases h), fun h => ?_⟩, rfl⟩
      have := (h 0 hp).1 rfl
      rw [hst] at this; cases this
    | true =>
      go_wp2_with fail
      go_loopg [3] (p.size - 1) (fun kk ix wr => wr = w ∧ ∃ k : Nat, kk = p.size - k ∧ 1 ≤ k ∧ k ≤ p.size ∧ ix = .int .i64 k ∧ NmTo p k)
      case atStart => exact ⟨rfl, 1, rfl, Nat.le_refl _, hp, rfl, fun i h hi => ⟨fun e => by subst e; exact hst, fun e => by omega⟩⟩
      case round =>
        obtain ⟨hw, k, rfl, hk1, hk, rfl, hn⟩ := hrel
        subst hw
        have HN : Aside (NmTo p k) := hn
        clear hn
        by_cases hlt : k < p.size
        · go_wp2_with fail
          refine (cont_any p[k].toNat _).mono ?_
          rintro e w' ⟨rfl, hw⟩
          obtain rfl := hw.symm
          clear hw
          cases hct : ct p[k].toNat with
          | false =>
            go_wp2
            go_ret
            refine ⟨false, rfl, ⟨(fun h => by cases h), fun h => ?_⟩, rfl⟩
            have := (h k hlt).2 (by omega)
            rw [hct] at this; cases this
          | true =>
            go_wp2
            go_roundg (p.size - (k + 1))
            case measure => omega
            case rel =>
              refine ⟨rfl, k + 1, rfl, by omega, by omega, by go_num, fun i h hi => ?_⟩
              by_cases e : i = k
              · subst e; exact ⟨fun h0 => by omega, fun _ => hct⟩
              · exact HN.out i h (by omega)
        · go_wp2
          go_ret
          exact ⟨true, rfl, ⟨fun _ i h => HN.out i h (by omega), fun _ => rfl⟩, rfl⟩
theorem nm_nodol {p : ByteArray} (h : IsNm p) : ∀ b ∈ p.data.toList, b ≠ 36 := by
  intro b hb e
  subst e
  obtain ⟨i, hi, he⟩ := List.getElem_of_mem hb
  have hx : i < p.size := by rw [Lib.size_eq]; exact hi
  have h36 : p[i] = 36 := he
  have := h i hx
  rw [h36] at this
  by_cases e0 : i = 0
  · have := this.1 e0; simp [st] at this
  · have := this.2 (by omega); simp [ct, st] at this
end Go.Proofs.Qxb6604277aDoor
