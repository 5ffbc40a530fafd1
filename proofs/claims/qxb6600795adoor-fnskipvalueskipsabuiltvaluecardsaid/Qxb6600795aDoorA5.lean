import Derived.Test.Qxb6600795aDoorA1
namespace Go.Proofs.Qxb6600795aDoor
open Go.RowKit

/-- The bytes T lie in block g, from its head, n of them. -/
def At (w : World) (g : Nat) (T : List UInt8) : Prop := ∀ (j : Nat) (c : UInt8), T[j]? = some c → w.cell? ⟨g, j, none⟩ = some (.int .u8 c.toNat)
theorem At.at' {w : World} {g : Nat} {T : List UInt8} (h : At w g T) {i : Nat} {c : UInt8} {l : List UInt8} (hd : T.drop i = c :: l) : i < T.length ∧ w.cell? ⟨g, i, none⟩ = some (.int .u8 c.toNat) := by
  have h1 : T[i]? = some c := by
    have := List.getElem?_drop (xs := T) (i := i) (j := 0)
    rw [hd] at this
    simpa using this.symm
  exact ⟨(List.getElem?_eq_some_iff.1 h1).1, h i c h1⟩
theorem drop_next {T : List UInt8} {i : Nat} {c : UInt8} {l : List UInt8} (hd : T.drop i = c :: l) : T.drop (i + 1) = l := by
  rw [← List.drop_drop, hd]; rfl
theorem ne_of {c d : UInt8} (h : c ≠ d) : ((c.toNat : Int) == (d.toNat : Int)) = false := by
  rw [beq_eq_false_iff_ne]
  intro e
  exact h (UInt8.toNat_inj.1 (by omega))

def RetI (w : World) (r : Nat) (e : Ending) (w' : World) : Prop := e = .returned (.int .i64 (r : Int)) ∧ w' = w

set_option maxHeartbeats 1000000 in
theorem skipString_any (g cap : Nat) (T : List UInt8) (i : Nat) (b r : List UInt8) (w : World) (hT : T.length ≤ 1048577) (hA : At w g T) (hb : Bod b) (hd : T.drop (i + 1) = b ++ r) (hi : i < T.length) :
    Calls Tryd.prog 15 #[.slice (some ⟨g, 0, none⟩) T.length cap, .int .i64 i] w fun e w' => RetI w (i + 1 + b.length) e w' := by
  have HA : Aside (At w g T) := hA
  clear hA
  go_enter Tryd.func15, Tryd.ntmps15
  go_wp2_with fail
  go_loopg [1] b.length (fun kk ix wr => wr = w ∧ ∃ (j : Nat) (b' : List UInt8), kk = b'.length ∧ ix = .int .i64 j ∧ Bod b' ∧ T.drop j = b' ++ r ∧ j + b'.length = i + 1 + b.length)
  case atStart => exact ⟨rfl, i + 1, b, rfl, by go_num, hb, hd, rfl⟩
  case round =>
    obtain ⟨hwr, j, b', rfl, rfl, hb', hd', hsum⟩ := hrel
    subst hwr
    clear hb hd
    cases hb' with
    | q =>
      obtain ⟨h1, h2⟩ := HA.out.at' hd'
      have HS : Aside (j + 1 = i + 1 + b.length) := hsum
      clear hd'
      have h2' : wr.cell? ⟨g, j, none⟩ = some (.int .u8 34) := h2
      clear h2 hsum
      go_wp2
      go_ret
      exact ⟨ret_int (by have := HS.out; omega), rfl⟩
    | esc c t ht =>
      obtain ⟨h1, h2⟩ := HA.out.at' hd'
      have h2' : wr.cell? ⟨g, j, none⟩ = some (.int .u8 92) := h2
      have HD : Aside (T.drop (j + 2) = t ++ r) := drop_next (drop_next hd')
      have HS : Aside (j + (t.length + 2) = i + 1 + b.length) := hsum
      have HT : Aside (Bod t) := ht
      clear hd' h2 hsum ht
      go_wp2
      go_roundg t.length
      case measure => simp; omega
      case rel => exact ⟨rfl, j + 2, t, rfl, by go_num, HT.out, HD.out, by have := HS.out; omega⟩
    | oth c t hc1 hc2 ht =>
      obtain ⟨h1, h2⟩ := HA.out.at' hd'
      have e1 : ((c.toNat : Int) == 34) = false := ne_of (d := 34) hc1
      have e1' : ((c.toNat : Int) != 34) = true := by simp [bne, e1]
      have e2 : ((c.toNat : Int) == 92) = false := ne_of (d := 92) hc2
      have HD : Aside (T.drop (j + 1) = t ++ r) := drop_next hd'
      have HS : Aside (j + (t.length + 1) = i + 1 + b.length) := hsum
      have HT : Aside (Bod t) := ht
      clear hd' hsum ht hc1 hc2 e1
      go_wp2
      go_roundg t.length
      case measure => simp
      case rel => exact ⟨rfl, j + 1, t, rfl, by go_num, HT.out, HD.out, by have := HS.out; omega⟩
end Go.Proofs.Qxb6600795aDoor
