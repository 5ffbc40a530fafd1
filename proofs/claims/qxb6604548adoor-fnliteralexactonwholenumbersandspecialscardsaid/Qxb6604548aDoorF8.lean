import Derived.Test.Qxb6604548aDoorF2
namespace Go.Proofs.Qxb6604548aDoor
open Go.RowKit

theorem take_snoc' {D : List UInt8} {k : Nat} (h : k < D.length) : D.take (k + 1) = D.take k ++ [D[k]] := List.take_succ_eq_append_getElem h
theorem rep_snoc (k : Nat) : List.replicate (k + 1) (48 : UInt8) = List.replicate k 48 ++ [48] := List.replicate_succ' ..

set_option maxHeartbeats 2000000 in
set_option maxRecDepth 100000 in
theorem fmtF_lt (g0 bB : Nat) (l D : List UInt8) (v : Value) (dp : Int) (w : World) (hbB : bB ≠ g0) (hl : l.length ≤ 100) (hD1 : 1 ≤ D.length) (hD : D.length ≤ 20) (hdp : -3 ≤ dp ∧ dp ≤ 6) (hle : (D.length : Int) ≤ dp)
    (hc : ∀ (j : Nat) (c : UInt8), D[j]? = some c → w.cell? ⟨bB, j, none⟩ = some (.int .u8 c.toNat)) (ho : OG w g0 l v w) :
    Calls Tryd.prog 27 #[v, .bool true, .slice (some ⟨bB, 0, none⟩) 32 32, .int .i64 dp, .int .i64 (D.length : Int), .int .i64 (D.length : Int), .int .u8 103, .bool true] w fun e w' => RetG w g0 (l ++ (sgn true ++ gTxt D dp)) e w' := by
  have HC : Aside (∀ (j : Nat) (c : UInt8), D[j]? = some c → w.cell? ⟨bB, j, none⟩ = some (.int .u8 c.toNat)) := hc
  have HO : Aside (OG w g0 l v w) := ho
  clear hc ho
  obtain ⟨q, rfl⟩ : ∃ q : Nat, dp = (q : Int) := ⟨dp.toNat, by omega⟩
  have HEND : Aside (∀ v' w', OG w g0 ((l ++ [45]) ++ D ++ List.replicate (q - D.length) 48) v' w' → RetG w g0 (l ++ (sgn true ++ gTxt D (q : Int))) (.returned v') w') := fun v' w' hh => ⟨v', rfl, by
    rw [gTxt, if_neg (by omega), fTxt, if_pos (by omega), if_neg (by omega), Int.toNat_natCast, List.take_of_length_le (by omega)]
    simpa [sgn] using hh⟩
  generalize hnl : D.length = nl at *
  have hq1 : ¬ ((q : Int) - 1 < -4) := by omega
  have hq2 : ¬ (6 ≤ (q : Int) - 1) := by omega
  have hq3 : (0 : Int) < (q : Int) := by omega
  have hgt : ¬ ((q : Int) < (nl : Int)) := by omega
  have hmax : max ((nl : Int) - (q : Int)) 0 = 0 := by omega
  have hmin : min (nl : Int) (q : Int) = (nl : Int) := by omega
  go_enter Tryd.func27, Tryd.ntmps27
  go_wp2_with (first
    | (at_builtin; refine wpList_og _ rfl (.tmp 179) (.tmp 180) rfl rfl (HO.out.alloc _) ⟨w.heap.size, 0, none⟩ 1 1 [45] rfl rfl (cells_lit _ [45] _ rfl) (by decide) (by simp; omega) ?_; intro v1 w1 hh; have H1 : Aside (OG w g0 (l ++ [45]) v1 w1) := hh; clear hh)
    | fail)
  go_loopg [0, 191] nl (fun kk v ix wr => ∃ k : Nat, kk = nl - k ∧ k ≤ nl ∧ ix = .int .i64 k ∧ OG w g0 ((l ++ [45]) ++ D.take k) v wr)
  case atStart => exact ⟨0, rfl, Nat.zero_le _, rfl, by simpa using H1.out⟩
  case round =>
    obtain ⟨k, rfl, hk, rfl, hh⟩ := hrel
    have H2 : Aside (OG w g0 ((l ++ [45]) ++ D.take k) u0 wr) := hh
    clear hh
    by_cases hlt : k < nl
    · have hkl : k < D.length := by omega
      have hcell := H2.out.cell (HC.out k D[k] (List.getElem?_eq_getElem hkl)) hbB
      have hlt' : (k : Int) < (nl : Int) := by omega
      have HTK : Aside (D.take (k + 1) = D.take k ++ [D[k]]) := take_snoc' hkl
      generalize D[k] = x at *
      go_wp2_with (first
        | (at_builtin; refine wpList_og _ rfl (.tmp 195) (.tmp 197) rfl rfl (H2.out.alloc _) ⟨wr.heap.size, 0, none⟩ 1 1 [x] rfl rfl (cells_lit _ [x] _ rfl) (by decide) (by simp; omega) ?_; intro v3 w3 hh; have H3 : Aside (OG w g0 ((l ++ [45]) ++ D.take (k + 1)) v3 w3) := (by rw [Aside, HTK.out]; simpa using hh); clear hh)
        | fail)
      go_roundg (nl - (k + 1))
      case measure => omega
      case rel => exact ⟨k + 1, rfl, by omega, by go_num, H3.out⟩
    · obtain rfl : k = nl := by omega
      have H3 : Aside (OG w g0 ((l ++ [45]) ++ D) u0 wr) := by
        have := H2.out
        rw [List.take_of_length_le (by omega)] at this
        exact this
      clear H2
      have hlt' : ¬ (k : Int) < (k : Int) := by omega
      obtain ⟨z, hz⟩ : ∃ z : Nat, (q : Int) - (k : Int) = (z : Int) := ⟨q - k, by omega⟩
      have HZ : Aside (q - k = z) := by rw [Aside]; omega
      go_wp2_with fail
      go_loopg [0, 203] z (fun kk v ix wr => ∃ j : Nat, kk = z - j ∧ j ≤ z ∧ ix = .int .i64 j ∧ OG w g0 ((l ++ [45]) ++ D ++ List.replicate j 48) v wr)
      case atStart => exact ⟨0, rfl, Nat.zero_le _, rfl, by simpa using H3.out⟩
      case round =>
        obtain ⟨j, rfl, hj, rfl, hh⟩ := hrel
        have H4 : Aside (OG w g0 ((l ++ [45]) ++ D ++ List.replicate j 48) u0 wr) := hh
        clear hh H3
        by_cases hlt2 : j < z
        · have hlt2' : (j : Int) < (z : Int) := by omega
          have HRP : Aside (List.replicate (j + 1) (48 : UInt8) = List.replicate j 48 ++ [48]) := rep_snoc j
          go_wp2_with (first
            | (at_builtin; refine wpList_og _ rfl (.tmp 205) (.tmp 206) rfl rfl (H4.out.alloc _) ⟨wr.heap.size, 0, none⟩ 1 1 [48] rfl rfl (cells_lit _ [48] _ rfl) (by decide) (by simp; omega) ?_; intro v5 w5 hh; have H5 : Aside (OG w g0 ((l ++ [45]) ++ D ++ List.replicate (j + 1) 48) v5 w5) := (by rw [Aside, HRP.out]; simpa using hh); clear hh)
            | fail)
          go_roundg (z - (j + 1))
          case measure => omega
          case rel => exact ⟨j + 1, rfl, by omega, by go_num, H5.out⟩
        · obtain rfl : j = z := by omega
          have HF : Aside (RetG w g0 (l ++ (sgn true ++ gTxt D (q : Int))) (.returned u0) wr) := HEND.out _ _ (by rw [HZ.out]; exact H4.out)
          clear H4 HEND
          go_wp2
          go_ret
          exact HF.out

set_option maxHeartbeats 2000000 in
set_option maxRecDepth 100000 in
theorem fmtF_lf (g0 bB : Nat) (l D : List UInt8) (v : Value) (dp : Int) (w : World) (hbB : bB ≠ g0) (hl : l.length ≤ 100) (hD1 : 1 ≤ D.length) (hD : D.length ≤ 20) (hdp : -3 ≤ dp ∧ dp ≤ 6) (hle : (D.length : Int) ≤ dp)
    (hc : ∀ (j : Nat) (c : UInt8), D[j]? = some c → w.cell? ⟨bB, j, none⟩ = some (.int .u8 c.toNat)) (ho : OG w g0 l v w) :
    Calls Tryd.prog 27 #[v, .bool false, .slice (some ⟨bB, 0, none⟩) 32 32, .int .i64 dp, .int .i64 (D.length : Int), .int .i64 (D.length : Int), .int .u8 103, .bool true] w fun e w' => RetG w g0 (l ++ (sgn false ++ gTxt D dp)) e w' := by
  have HC : Aside (∀ (j : Nat) (c : UInt8), D[j]? = some c → w.cell? ⟨bB, j, none⟩ = some (.int .u8 c.toNat)) := hc
  have HO : Aside (OG w g0 l v w) := ho
  clear hc ho
  obtain ⟨q, rfl⟩ : ∃ q : Nat, dp = (q : Int) := ⟨dp.toNat, by omega⟩
  have HEND : Aside (∀ v' w', OG w g0 (l ++ D ++ List.replicate (q - D.length) 48) v' w' → RetG w g0 (l ++ (sgn false ++ gTxt D (q : Int))) (.returned v') w') := fun v' w' hh => ⟨v', rfl, by
    rw [gTxt, if_neg (by omega), fTxt, if_pos (by omega), if_neg (by omega), Int.toNat_natCast, List.take_of_length_le (by omega)]
    simpa [sgn] using hh⟩
  generalize hnl : D.length = nl at *
  have hq1 : ¬ ((q : Int) - 1 < -4) := by omega
  have hq2 : ¬ (6 ≤ (q : Int) - 1) := by omega
  have hq3 : (0 : Int) < (q : Int) := by omega
  have hgt : ¬ ((q : Int) < (nl : Int)) := by omega
  have hmax : max ((nl : Int) - (q : Int)) 0 = 0 := by omega
  have hmin : min (nl : Int) (q : Int) = (nl : Int) := by omega
  go_enter Tryd.func27, Tryd.ntmps27
  go_wp2_with (first
    | fail)
  go_loopg [0, 191] nl (fun kk v ix wr => ∃ k : Nat, kk = nl - k ∧ k ≤ nl ∧ ix = .int .i64 k ∧ OG w g0 (l ++ D.take k) v wr)
  case atStart => exact ⟨0, rfl, Nat.zero_le _, rfl, by simpa using HO.out⟩
  case round =>
    obtain ⟨k, rfl, hk, rfl, hh⟩ := hrel
    have H2 : Aside (OG w g0 (l ++ D.take k) u0 wr) := hh
    clear hh
    by_cases hlt : k < nl
    · have hkl : k < D.length := by omega
      have hcell := H2.out.cell (HC.out k D[k] (List.getElem?_eq_getElem hkl)) hbB
      have hlt' : (k : Int) < (nl : Int) := by omega
      have HTK : Aside (D.take (k + 1) = D.take k ++ [D[k]]) := take_snoc' hkl
      generalize D[k] = x at *
      go_wp2_with (first
        | (at_builtin; refine wpList_og _ rfl (.tmp 195) (.tmp 197) rfl rfl (H2.out.alloc _) ⟨wr.heap.size, 0, none⟩ 1 1 [x] rfl rfl (cells_lit _ [x] _ rfl) (by decide) (by simp; omega) ?_; intro v3 w3 hh; have H3 : Aside (OG w g0 (l ++ D.take (k + 1)) v3 w3) := (by rw [Aside, HTK.out]; simpa using hh); clear hh)
        | fail)
      go_roundg (nl - (k + 1))
      case measure => omega
      case rel => exact ⟨k + 1, rfl, by omega, by go_num, H3.out⟩
    · obtain rfl : k = nl := by omega
      have H3 : Aside (OG w g0 (l ++ D) u0 wr) := by
        have := H2.out
        rw [List.take_of_length_le (by omega)] at this
        exact this
      clear H2
      have hlt' : ¬ (k : Int) < (k : Int) := by omega
      obtain ⟨z, hz⟩ : ∃ z : Nat, (q : Int) - (k : Int) = (z : Int) := ⟨q - k, by omega⟩
      have HZ : Aside (q - k = z) := by rw [Aside]; omega
      go_wp2_with fail
      go_loopg [0, 203] z (fun kk v ix wr => ∃ j : Nat, kk = z - j ∧ j ≤ z ∧ ix = .int .i64 j ∧ OG w g0 (l ++ D ++ List.replicate j 48) v wr)
      case atStart => exact ⟨0, rfl, Nat.zero_le _, rfl, by simpa using H3.out⟩
      case round =>
        obtain ⟨j, rfl, hj, rfl, hh⟩ := hrel
        have H4 : Aside (OG w g0 (l ++ D ++ List.replicate j 48) u0 wr) := hh
        clear hh H3
        by_cases hlt2 : j < z
        · have hlt2' : (j : Int) < (z : Int) := by omega
          have HRP : Aside (List.replicate (j + 1) (48 : UInt8) = List.replicate j 48 ++ [48]) := rep_snoc j
          go_wp2_with (first
            | (at_builtin; refine wpList_og _ rfl (.tmp 205) (.tmp 206) rfl rfl (H4.out.alloc _) ⟨wr.heap.size, 0, none⟩ 1 1 [48] rfl rfl (cells_lit _ [48] _ rfl) (by decide) (by simp; omega) ?_; intro v5 w5 hh; have H5 : Aside (OG w g0 (l ++ D ++ List.replicate (j + 1) 48) v5 w5) := (by rw [Aside, HRP.out]; simpa using hh); clear hh)
            | fail)
          go_roundg (z - (j + 1))
          case measure => omega
          case rel => exact ⟨j + 1, rfl, by omega, by go_num, H5.out⟩
        · obtain rfl : j = z := by omega
          have HF : Aside (RetG w g0 (l ++ (sgn false ++ gTxt D (q : Int))) (.returned u0) wr) := HEND.out _ _ (by rw [HZ.out]; exact H4.out)
          clear H4 HEND
          go_wp2
          go_ret
          exact HF.out
end Go.Proofs.Qxb6604548aDoor
