import Derived.Test.Qxb6600795aDoorA4
import Derived.Test.Qxb6600795aDoorA8
namespace Go.Proofs.Qxb6600795aDoor
open Go.RowKit

def RetBb (w : World) (e : Ending) (w' : World) : Prop := ∃ b : Bool, e = .returned (.bool b) ∧ w' = w
set_option maxHeartbeats 400000 in
theorem zzBytes_any (a1 a2 a3 : Option Addr) (n1 n2 n3 c1 c2 c3 : Nat) (s : Int) (w : World) (h1 : n1 ≤ maxLen) (h2 : n2 ≤ maxLen) (h3 : n3 ≤ maxLen) :
    Calls Tryd.prog 8 #[.slice a1 n1 c1, .slice a2 n2 c2, .slice a3 n3 c3, .int .u8 s] w fun e w' => RetBb w e w' := by
  unfold maxLen at h1 h2 h3
  go_enter Tryd.func8, Tryd.ntmps8
  by_cases k1 : n1 ≤ 1048576
  · by_cases k2 : n2 ≤ 1048576
    · by_cases k3 : n1 + n2 ≤ 1048576
      · by_cases k4 : n3 ≤ 1048576
        · by_cases k5 : n1 + n2 + n3 ≤ 1048576
          · go_wp2
            go_ret
            exact ⟨_, rfl, rfl⟩
          · go_wp2
            go_ret
            exact ⟨_, rfl, rfl⟩
        · go_wp2
          go_ret
          exact ⟨_, rfl, rfl⟩
      · go_wp2
        go_ret
        exact ⟨_, rfl, rfl⟩
    · go_wp2
      go_ret
      exact ⟨_, rfl, rfl⟩
  · go_wp2
    go_ret
    exact ⟨_, rfl, rfl⟩

/-- the first n bytes of S -/
def bs (S : Nat → UInt8) (n : Nat) : List UInt8 := (List.range n).map S
theorem bs_len (S : Nat → UInt8) (n : Nat) : (bs S n).length = n := by simp [bs]
theorem rb_cells {w : World} {ao : Option Addr} {n : Nat} {S : Nat → UInt8} (h : Rb w ao n S) : ∀ ad, ao = some ad → ∀ j u, (Lib.byteCells (bs S n))[j]? = some u → w.cell? (ad.add j) = some u := by
  intro ad had j u hu
  have hj : j < n := by
    have := (List.getElem?_eq_some_iff.1 hu).1
    rw [Lib.byteCells_length, bs_len] at this; exact this
  obtain ⟨b, o, e1, e2⟩ := h j hj
  rw [had] at e1
  cases e1
  rw [Addr.add_lit, e2, ← hu]
  simp [Lib.byteCells, bs, hj]
theorem grown_below {w w' : World} {g : Nat} (h : w.grownBy w' (some g)) (hg : w.heap.size ≤ g) : Below w.heap.size w w' := (Below.refl _ _).grown h (Nat.le_refl _) (fun k hk => by cases hk; exact hg)
theorem AO.at_ {w wr : World} {base g cap : Nat} {l : List UInt8} {v : Value} (h : AO w base g cap l v wr) : At wr g l := fun j c hj => by
  have hjl := (List.getElem?_eq_some_iff.1 hj).1
  rw [h.2.1.cellAt j (by omega)]
  simp [Lib.byteCells, hj]
theorem own_cells {w1 wx : World} {base g n cap gD : Nat} {l : List UInt8} (h : w1.ownsRow base 5 1 (.slice (some ⟨g, 0, none⟩) n cap) n (Lib.byteCells l)) (hg : w1.grownBy wx (some gD)) (hlt : g < w1.heap.size) (hgD : w1.heap.size ≤ gD := by exact Nat.le_refl _) : ∀ ad, some (⟨g, 0, none⟩ : Addr) = some ad → ∀ j u, (Lib.byteCells l)[j]? = some u → wx.cell? (ad.add j) = some u := by
  intro ad had j u hu
  cases had
  exact (h.kept hg (.inr (by simp [Value.ownBlock]; omega))).cells rfl j u hu
theorem sep_all {q : Nat} (hq : q < sepB.size) : sepQ sepB[q] = true := by
  have h6 : q < 6 := hq
  rcases (by omega : q = 0 ∨ q = 1 ∨ q = 2 ∨ q = 3 ∨ q = 4 ∨ q = 5) with rfl | rfl | rfl | rfl | rfl | rfl <;> rfl
def RT (w : World) (e : Ending) (w' : World) : Prop := e = .returned (.bool true) ∧ Below w.heap.size w w'

set_option maxHeartbeats 2000000 in
set_option maxRecDepth 100000 in
theorem law_any (a1 a2 a3 : Option Addr) (n1 n2 n3 c1 c2 c3 : Nat) (X O Z : Nat → UInt8) (s : UInt8) (w : World) (h1 : n1 ≤ maxLen) (h2 : n2 ≤ maxLen) (h3 : n3 ≤ maxLen)
    (m1 : a1 = none → n1 = 0 ∧ c1 = 0) (m3 : a3 = none → n3 = 0 ∧ c3 = 0) (r1 : Rb w a1 n1 X) (r2 : Rb w a2 n2 O) (r3 : Rb w a3 n3 Z) :
    Calls Tryd.prog 4 #[.slice a1 n1 c1, .slice a2 n2 c2, .slice a3 n3 c3, .int .u8 s.toNat] w fun e w' => RT w e w' := by
  have HZ := zzBytes_any a1 a2 a3 n1 n2 n3 c1 c2 c3 s.toNat w h1 h2 h3
  have R1 : Aside (Rb w a1 n1 X) := r1
  have R2 : Aside (Rb w a2 n2 O) := r2
  have R3 : Aside (Rb w a3 n3 Z) := r3
  have M1 : Aside (a1 = none → n1 = 0 ∧ c1 = 0) := m1
  have M3 : Aside (a3 = none → n3 = 0 ∧ c3 = 0) := m3
  clear r1 r2 r3 m1 m3
  unfold maxLen at h1 h2 h3
  obtain ⟨i5, hi5, hz50, hz51, hz52⟩ := info_parts Tryd.info5
  go_enter Tryd.func4, Tryd.ntmps4
  go_wp2_with fail
  refine HZ.mono ?_
  rintro e w' ⟨b, rfl, hw⟩
  obtain rfl := hw.symm
  clear hw HZ
  cases b with
  | false =>
    go_wp2
    go_ret
    exact ⟨rfl, Below.refl _ _⟩
  | true =>
    by_cases k1 : n1 ≤ 1048576
    · by_cases k2 : n2 ≤ 65536
      · by_cases k3 : n3 ≤ 1048576
        · by_cases k4 : n1 + 20 * n2 + 16 + 1 + n3 ≤ 1048576
          · go_wp2_with fail
            refine (build_any a2 n2 c2 O _ k2 R2.out).mono ?_
            rintro e w1 ⟨l, g, rfl, hown, hval, hll, hb1⟩
            have HO : Aside (w1.ownsRow w.heap.size 5 1 (.slice (some ⟨g, 0, none⟩) l.length (20 * n2 + 16)) l.length (Lib.byteCells l)) := hown
            have HV : Aside (ValOK l) := hval
            have HB1 : Aside (Below w.heap.size w w1) := hb1
            clear hown hval hb1
            have hsq : (s.toNat : Int) % 6 = ((s.toNat % 6 : Nat) : Int) := by omega
            have hq : s.toNat % 6 < 6 := by omega
            generalize s.toNat % 6 = q at *
            have hq6 : q < sepB.size := hq
            go_wp2_with (first
              | (at_make; refine wpList_make_own _ rfl _ _ 22 rfl w1.heap.size 5 i5 (.int .u8 0) 1 Tryd.underlying22 hi5 hz50 hz51 _ _ _ (n1 + l.length + 1 + n3) rfl rfl (by omega) (by rw [hz52]; omega) (by unfold maxLen; omega) (Nat.le_refl _) ?_; intro w2 hh1 hh2; have H2 : Aside (AO w1 w1.heap.size w1.heap.size (n1 + l.length + 1 + n3) [] (.slice (some ⟨w1.heap.size, 0, none⟩) 0 (n1 + l.length + 1 + n3)) w2) := ⟨rfl, hh1, grown_any hh2⟩; clear hh1 hh2)
              | (at_builtin; refine wpList_ao _ rfl (.tmp 54) (.tmp 55) rfl rfl H2.out a1 n1 c1 (bs X n1) (bs_len _ _) rfl M1.out (rb_cells ((R1.out.later HB1.out).later (grown_below H2.out.2.2 (Nat.le_refl _)))) (by simp [bs_len] <;> omega) ?_; intro v3 w3 hh; have H3 : Aside (AO w1 w1.heap.size w1.heap.size (n1 + l.length + 1 + n3) (bs X n1) v3 w3) := hh; clear hh)
              | (at_builtin; refine wpList_ao _ rfl (.tmp 57) (.tmp 58) rfl rfl H3.out (some ⟨g, 0, none⟩) l.length (20 * n2 + 16) l rfl rfl (fun h => by cases h) (own_cells HO.out H3.out.2.2 (HO.out.lt g rfl).2) (by simp [bs_len] <;> omega) ?_; intro v4 w4 hh; have H4 : Aside (AO w1 w1.heap.size w1.heap.size (n1 + l.length + 1 + n3) (bs X n1 ++ l) v4 w4) := hh; clear hh)
              | (at_builtin; refine wpList_ao _ rfl (.tmp 60) (.tmp 64) rfl rfl (H4.out.alloc _) (some ⟨w4.heap.size, 0, none⟩) 1 1 [sepB[q]] rfl rfl (fun h => by cases h) (cells_lit _ [sepB[q]] _ rfl) (by simp [bs_len] <;> omega) ?_; intro v5 w5 hh; have H5 : Aside (AO w1 w1.heap.size w1.heap.size (n1 + l.length + 1 + n3) (bs X n1 ++ l ++ [sepB[q]]) v5 w5) := hh; clear hh)
              | (at_builtin; refine wpList_ao _ rfl (.tmp 66) (.tmp 67) rfl rfl H5.out a3 n3 c3 (bs Z n3) (bs_len _ _) rfl M3.out (rb_cells ((R3.out.later HB1.out).later (grown_below H5.out.2.2 (Nat.le_refl _)))) (by simp [bs_len] <;> omega) ?_; intro v6 w6 hh; have H6 : Aside (AO w1 w1.heap.size w1.heap.size (n1 + l.length + 1 + n3) (bs X n1 ++ l ++ [sepB[q]] ++ bs Z n3) v6 w6) := hh; clear hh))
            have hv6 := H6.out.1
            subst hv6
            have hTl : (bs X n1 ++ l ++ [sepB[q]] ++ bs Z n3).length = n1 + l.length + 1 + n3 := by simp [bs_len]; omega
            have HW6 : Aside (Below w.heap.size w w6) := HB1.out.trans ((grown_below H6.out.2.2 (Nat.le_refl _)).mono HB1.out.size)
            refine (zzSkip_any w1.heap.size (n1 + l.length + 1 + n3) (bs X n1 ++ l ++ [sepB[q]] ++ bs Z n3) n1 l sepB[q] (bs Z n3) w6 (by omega) (by omega) H6.out.at_ (by
              rw [List.append_assoc, List.append_assoc, List.drop_left' (bs_len X n1)]
              simp) (sep_all hq6) HV.out).mono ?_
            rintro e w7 ⟨rfl, hb7⟩
            have HW7 : Aside (Below w.heap.size w w7) := HW6.out.trans (hb7.mono HW6.out.size)
            clear hb7 H6 H5 H4 H3 H2 HO HV HW6 hTl
            have hcast : ((n1 + l.length : Nat) : Int) = (n1 : Int) + (l.length : Int) := by omega
            go_wp2
            go_ret
            exact ⟨ret_bool (by simp), HW7.out⟩
          · go_wp2
            go_ret
            exact ⟨rfl, Below.refl _ _⟩
        · go_wp2
          go_ret
          exact ⟨rfl, Below.refl _ _⟩
      · go_wp2
        go_ret
        exact ⟨rfl, Below.refl _ _⟩
    · go_wp2
      go_ret
      exact ⟨rfl, Below.refl _ _⟩
end Go.Proofs.Qxb6600795aDoor
