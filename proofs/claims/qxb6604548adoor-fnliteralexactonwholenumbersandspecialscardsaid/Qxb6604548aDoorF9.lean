import Derived.Test.Qxb6604548aDoorF8
namespace Go.Proofs.Qxb6604548aDoor
open Go.RowKit

set_option maxHeartbeats 2000000 in
set_option maxRecDepth 100000 in
theorem fmtF_pt (g0 bB : Nat) (l D : List UInt8) (v : Value) (dp : Int) (w : World) (hbB : bB ≠ g0) (hl : l.length ≤ 100) (hD1 : 1 ≤ D.length) (hD : D.length ≤ 20) (hdp : -3 ≤ dp ∧ dp ≤ 6) (hpo : 0 < dp) (hle : dp < (D.length : Int))
    (hc : ∀ (j : Nat) (c : UInt8), D[j]? = some c → w.cell? ⟨bB, j, none⟩ = some (.int .u8 c.toNat)) (ho : OG w g0 l v w) :
    Calls Tryd.prog 27 #[v, .bool true, .slice (some ⟨bB, 0, none⟩) 32 32, .int .i64 dp, .int .i64 (D.length : Int), .int .i64 (D.length : Int), .int .u8 103, .bool true] w fun e w' => RetG w g0 (l ++ (sgn true ++ gTxt D dp)) e w' := by
  have HC : Aside (∀ (j : Nat) (c : UInt8), D[j]? = some c → w.cell? ⟨bB, j, none⟩ = some (.int .u8 c.toNat)) := hc
  have HO : Aside (OG w g0 l v w) := ho
  clear hc ho
  obtain ⟨q, rfl⟩ : ∃ q : Nat, dp = (q : Int) := ⟨dp.toNat, by omega⟩
  have HEND : Aside (∀ v' w', OG w g0 ((l ++ [45]) ++ D.take q ++ [46] ++ D.drop q) v' w' → RetG w g0 (l ++ (sgn true ++ gTxt D (q : Int))) (.returned v') w') := fun v' w' hh => ⟨v', rfl, by
    rw [gTxt, if_neg (by omega), fTxt, if_pos (by omega), if_pos (by omega), Int.toNat_natCast, show q - D.length = 0 by omega, show (-(q : Int)).toNat = 0 by omega]
    simpa [sgn] using hh⟩
  generalize hnl : D.length = nl at *
  have hq1 : ¬ ((q : Int) - 1 < -4) := by omega
  have hq2 : ¬ (6 ≤ (q : Int) - 1) := by omega
  have hgt : (q : Int) < (nl : Int) := by omega
  obtain ⟨z, hz⟩ : ∃ z : Nat, (nl : Int) - (q : Int) = (z : Int) := ⟨nl - q, by omega⟩
  have hz1 : (0 : Int) < (z : Int) := by omega
  have hmax : max ((nl : Int) - (q : Int)) 0 = (z : Int) := by omega
  have hmin : min (nl : Int) (q : Int) = (q : Int) := by omega
  have hm1 : max (0 : Int) (-(q : Int)) = 0 := by omega
  have hm2 : min (z : Int) 0 = 0 := by omega
  have hm3 : max (0 : Int) (z : Int) = (z : Int) := by omega
  go_enter Tryd.func27, Tryd.ntmps27
  go_wp2_with (first
    | (at_builtin; refine wpList_og _ rfl (.tmp 179) (.tmp 180) rfl rfl (HO.out.alloc _) ⟨w.heap.size, 0, none⟩ 1 1 [45] rfl rfl (cells_lit _ [45] _ rfl) (by decide) (by simp; omega) ?_; intro v1 w1 hh; have H1 : Aside (OG w g0 (l ++ [45]) v1 w1) := hh; clear hh)
    | fail)
  go_loopg [0, 191] q (fun kk v ix wr => ∃ k : Nat, kk = q - k ∧ k ≤ q ∧ ix = .int .i64 k ∧ OG w g0 ((l ++ [45]) ++ D.take k) v wr)
  case atStart => exact ⟨0, rfl, Nat.zero_le _, rfl, by simpa using H1.out⟩
  case round =>
    obtain ⟨k, rfl, hk, rfl, hh⟩ := hrel
    have H2 : Aside (OG w g0 ((l ++ [45]) ++ D.take k) u0 wr) := hh
    clear hh
    by_cases hlt : k < q
    · have hkl : k < D.length := by omega
      have hcell := H2.out.cell (HC.out k D[k] (List.getElem?_eq_getElem hkl)) hbB
      have hlt' : (k : Int) < (q : Int) := by omega
      have HTK : Aside (D.take (k + 1) = D.take k ++ [D[k]]) := take_snoc' hkl
      generalize D[k] = x at *
      go_wp2_with (first
        | (at_builtin; refine wpList_og _ rfl (.tmp 195) (.tmp 197) rfl rfl (H2.out.alloc _) ⟨wr.heap.size, 0, none⟩ 1 1 [x] rfl rfl (cells_lit _ [x] _ rfl) (by decide) (by simp; omega) ?_; intro v3 w3 hh; have H3 : Aside (OG w g0 ((l ++ [45]) ++ D.take (k + 1)) v3 w3) := (by rw [Aside, HTK.out]; simpa using hh); clear hh)
        | fail)
      go_roundg (q - (k + 1))
      case measure => omega
      case rel => exact ⟨k + 1, rfl, by omega, by go_num, H3.out⟩
    · obtain rfl : k = q := by omega
      have hlt' : ¬ (k : Int) < (k : Int) := by omega
      go_wp2_with fail
      go_loopg [0, 203] 0 (fun _ v ix wr => ix = .int .i64 0 ∧ OG w g0 ((l ++ [45]) ++ D.take k) v wr)
      case atStart => exact ⟨rfl, H2.out⟩
      case round =>
        obtain ⟨rfl, hh⟩ := hrel
        have H3 : Aside (OG w g0 ((l ++ [45]) ++ D.take k) u0 wr) := hh
        clear hh H2
        go_wp2_with (first
          | (at_builtin; refine wpList_og _ rfl (.tmp 214) (.tmp 215) rfl rfl (H3.out.alloc _) ⟨wr.heap.size, 0, none⟩ 1 1 [46] rfl rfl (cells_lit _ [46] _ rfl) (by decide) (by simp; omega) ?_; intro v4 w4 hh; have H4 : Aside (OG w g0 ((l ++ [45]) ++ D.take k ++ [46]) v4 w4) := hh; clear hh)
          | fail)
        go_loopg [0, 240] 0 (fun _ v ix wr => ix = .int .i64 0 ∧ OG w g0 ((l ++ [45]) ++ D.take k ++ [46]) v wr)
        case atStart => exact ⟨rfl, H4.out⟩
        case round =>
          obtain ⟨rfl, hh⟩ := hrel
          have H5 : Aside (OG w g0 ((l ++ [45]) ++ D.take k ++ [46]) u0 wr) := hh
          clear hh H4
          go_wp2_with fail
          go_loopg [0, 247] z (fun kk v ix wr => ∃ j : Nat, kk = z - j ∧ j ≤ z ∧ ix = .int .i64 j ∧ OG w g0 ((l ++ [45]) ++ D.take k ++ [46] ++ (D.drop k).take j) v wr)
          case atStart => exact ⟨0, rfl, Nat.zero_le _, rfl, by simpa using H5.out⟩
          case round =>
            obtain ⟨j, rfl, hj, rfl, hh⟩ := hrel
            have H6 : Aside (OG w g0 ((l ++ [45]) ++ D.take k ++ [46] ++ (D.drop k).take j) u0 wr) := hh
            clear hh H5
            by_cases hlt2 : j < z
            · have hjl : j < (D.drop k).length := by rw [List.length_drop]; omega
              have hjl2 : k + j < D.length := by omega
              have hcell := H6.out.cell (HC.out (k + j) (D.drop k)[j] (by rw [← List.getElem?_drop]; exact List.getElem?_eq_getElem hjl)) hbB
              have hlt2' : (j : Int) < (z : Int) := by omega
              have HTK : Aside ((D.drop k).take (j + 1) = (D.drop k).take j ++ [(D.drop k)[j]]) := take_snoc' hjl
              generalize (D.drop k)[j] = x at *
              go_wp2_with (first
                | (at_builtin; refine wpList_og _ rfl (.tmp 250) (.tmp 257) rfl rfl (H6.out.alloc _) ⟨wr.heap.size, 0, none⟩ 1 1 [x] rfl rfl (cells_lit _ [x] _ rfl) (by decide) (by simp; omega) ?_; intro v6 w6 hh; have H7 : Aside (OG w g0 ((l ++ [45]) ++ D.take k ++ [46] ++ (D.drop k).take (j + 1)) v6 w6) := (by rw [Aside, HTK.out]; simpa using hh); clear hh)
                | fail)
              go_roundg (z - (j + 1))
              case measure => omega
              case rel => exact ⟨j + 1, rfl, by omega, by go_num, H7.out⟩
            · obtain rfl : j = z := by omega
              have H7 : Aside (OG w g0 ((l ++ [45]) ++ D.take k ++ [46] ++ D.drop k) u0 wr) := by
                have := H6.out
                rw [show (D.drop k).take j = D.drop k from List.take_of_length_le (by rw [List.length_drop]; omega)] at this
                exact this
              clear H6
              have hlt2' : ¬ (j : Int) < (j : Int) := by omega
              go_wp2_with fail
              go_loopg [0, 261] 0 (fun _ v ix wr => ix = .int .i64 0 ∧ OG w g0 ((l ++ [45]) ++ D.take k ++ [46] ++ D.drop k) v wr)
              case atStart => exact ⟨rfl, H7.out⟩
              case round =>
                obtain ⟨rfl, hh⟩ := hrel
                have HF : Aside (RetG w g0 (l ++ (sgn true ++ gTxt D (k : Int))) (.returned u0) wr) := HEND.out _ _ hh
                clear hh H7 HEND
                go_wp2
                go_ret
                exact HF.out

set_option maxHeartbeats 2000000 in
set_option maxRecDepth 100000 in
theorem fmtF_pf (g0 bB : Nat) (l D : List UInt8) (v : Value) (dp : Int) (w : World) (hbB : bB ≠ g0) (hl : l.length ≤ 100) (hD1 : 1 ≤ D.length) (hD : D.length ≤ 20) (hdp : -3 ≤ dp ∧ dp ≤ 6) (hpo : 0 < dp) (hle : dp < (D.length : Int))
    (hc : ∀ (j : Nat) (c : UInt8), D[j]? = some c → w.cell? ⟨bB, j, none⟩ = some (.int .u8 c.toNat)) (ho : OG w g0 l v w) :
    Calls Tryd.prog 27 #[v, .bool false, .slice (some ⟨bB, 0, none⟩) 32 32, .int .i64 dp, .int .i64 (D.length : Int), .int .i64 (D.length : Int), .int .u8 103, .bool true] w fun e w' => RetG w g0 (l ++ (sgn false ++ gTxt D dp)) e w' := by
  have HC : Aside (∀ (j : Nat) (c : UInt8), D[j]? = some c → w.cell? ⟨bB, j, none⟩ = some (.int .u8 c.toNat)) := hc
  have HO : Aside (OG w g0 l v w) := ho
  clear hc ho
  obtain ⟨q, rfl⟩ : ∃ q : Nat, dp = (q : Int) := ⟨dp.toNat, by omega⟩
  have HEND : Aside (∀ v' w', OG w g0 (l ++ D.take q ++ [46] ++ D.drop q) v' w' → RetG w g0 (l ++ (sgn false ++ gTxt D (q : Int))) (.returned v') w') := fun v' w' hh => ⟨v', rfl, by
    rw [gTxt, if_neg (by omega), fTxt, if_pos (by omega), if_pos (by omega), Int.toNat_natCast, show q - D.length = 0 by omega, show (-(q : Int)).toNat = 0 by omega]
    simpa [sgn] using hh⟩
  generalize hnl : D.length = nl at *
  have hq1 : ¬ ((q : Int) - 1 < -4) := by omega
  have hq2 : ¬ (6 ≤ (q : Int) - 1) := by omega
  have hgt : (q : Int) < (nl : Int) := by omega
  obtain ⟨z, hz⟩ : ∃ z : Nat, (nl : Int) - (q : Int) = (z : Int) := ⟨nl - q, by omega⟩
  have hz1 : (0 : Int) < (z : Int) := by omega
  have hmax : max ((nl : Int) - (q : Int)) 0 = (z : Int) := by omega
  have hmin : min (nl : Int) (q : Int) = (q : Int) := by omega
  have hm1 : max (0 : Int) (-(q : Int)) = 0 := by omega
  have hm2 : min (z : Int) 0 = 0 := by omega
  have hm3 : max (0 : Int) (z : Int) = (z : Int) := by omega
  go_enter Tryd.func27, Tryd.ntmps27
  go_wp2_with (first
    | fail)
  go_loopg [0, 191] q (fun kk v ix wr => ∃ k : Nat, kk = q - k ∧ k ≤ q ∧ ix = .int .i64 k ∧ OG w g0 (l ++ D.take k) v wr)
  case atStart => exact ⟨0, rfl, Nat.zero_le _, rfl, by simpa using HO.out⟩
  case round =>
    obtain ⟨k, rfl, hk, rfl, hh⟩ := hrel
    have H2 : Aside (OG w g0 (l ++ D.take k) u0 wr) := hh
    clear hh
    by_cases hlt : k < q
    · have hkl : k < D.length := by omega
      have hcell := H2.out.cell (HC.out k D[k] (List.getElem?_eq_getElem hkl)) hbB
      have hlt' : (k : Int) < (q : Int) := by omega
      have HTK : Aside (D.take (k + 1) = D.take k ++ [D[k]]) := take_snoc' hkl
      generalize D[k] = x at *
      go_wp2_with (first
        | (at_builtin; refine wpList_og _ rfl (.tmp 195) (.tmp 197) rfl rfl (H2.out.alloc _) ⟨wr.heap.size, 0, none⟩ 1 1 [x] rfl rfl (cells_lit _ [x] _ rfl) (by decide) (by simp; omega) ?_; intro v3 w3 hh; have H3 : Aside (OG w g0 (l ++ D.take (k + 1)) v3 w3) := (by rw [Aside, HTK.out]; simpa using hh); clear hh)
        | fail)
      go_roundg (q - (k + 1))
      case measure => omega
      case rel => exact ⟨k + 1, rfl, by omega, by go_num, H3.out⟩
    · obtain rfl : k = q := by omega
      have hlt' : ¬ (k : Int) < (k : Int) := by omega
      go_wp2_with fail
      go_loopg [0, 203] 0 (fun _ v ix wr => ix = .int .i64 0 ∧ OG w g0 (l ++ D.take k) v wr)
      case atStart => exact ⟨rfl, H2.out⟩
      case round =>
        obtain ⟨rfl, hh⟩ := hrel
        have H3 : Aside (OG w g0 (l ++ D.take k) u0 wr) := hh
        clear hh H2
        go_wp2_with (first
          | (at_builtin; refine wpList_og _ rfl (.tmp 214) (.tmp 215) rfl rfl (H3.out.alloc _) ⟨wr.heap.size, 0, none⟩ 1 1 [46] rfl rfl (cells_lit _ [46] _ rfl) (by decide) (by simp; omega) ?_; intro v4 w4 hh; have H4 : Aside (OG w g0 (l ++ D.take k ++ [46]) v4 w4) := hh; clear hh)
          | fail)
        go_loopg [0, 240] 0 (fun _ v ix wr => ix = .int .i64 0 ∧ OG w g0 (l ++ D.take k ++ [46]) v wr)
        case atStart => exact ⟨rfl, H4.out⟩
        case round =>
          obtain ⟨rfl, hh⟩ := hrel
          have H5 : Aside (OG w g0 (l ++ D.take k ++ [46]) u0 wr) := hh
          clear hh H4
          go_wp2_with fail
          go_loopg [0, 247] z (fun kk v ix wr => ∃ j : Nat, kk = z - j ∧ j ≤ z ∧ ix = .int .i64 j ∧ OG w g0 (l ++ D.take k ++ [46] ++ (D.drop k).take j) v wr)
          case atStart => exact ⟨0, rfl, Nat.zero_le _, rfl, by simpa using H5.out⟩
          case round =>
            obtain ⟨j, rfl, hj, rfl, hh⟩ := hrel
            have H6 : Aside (OG w g0 (l ++ D.take k ++ [46] ++ (D.drop k).take j) u0 wr) := hh
            clear hh H5
            by_cases hlt2 : j < z
            · have hjl : j < (D.drop k).length := by rw [List.length_drop]; omega
              have hjl2 : k + j < D.length := by omega
              have hcell := H6.out.cell (HC.out (k + j) (D.drop k)[j] (by rw [← List.getElem?_drop]; exact List.getElem?_eq_getElem hjl)) hbB
              have hlt2' : (j : Int) < (z : Int) := by omega
              have HTK : Aside ((D.drop k).take (j + 1) = (D.drop k).take j ++ [(D.drop k)[j]]) := take_snoc' hjl
              generalize (D.drop k)[j] = x at *
              go_wp2_with (first
                | (at_builtin; refine wpList_og _ rfl (.tmp 250) (.tmp 257) rfl rfl (H6.out.alloc _) ⟨wr.heap.size, 0, none⟩ 1 1 [x] rfl rfl (cells_lit _ [x] _ rfl) (by decide) (by simp; omega) ?_; intro v6 w6 hh; have H7 : Aside (OG w g0 (l ++ D.take k ++ [46] ++ (D.drop k).take (j + 1)) v6 w6) := (by rw [Aside, HTK.out]; simpa using hh); clear hh)
                | fail)
              go_roundg (z - (j + 1))
              case measure => omega
              case rel => exact ⟨j + 1, rfl, by omega, by go_num, H7.out⟩
            · obtain rfl : j = z := by omega
              have H7 : Aside (OG w g0 (l ++ D.take k ++ [46] ++ D.drop k) u0 wr) := by
                have := H6.out
                rw [show (D.drop k).take j = D.drop k from List.take_of_length_le (by rw [List.length_drop]; omega)] at this
                exact this
              clear H6
              have hlt2' : ¬ (j : Int) < (j : Int) := by omega
              go_wp2_with fail
              go_loopg [0, 261] 0 (fun _ v ix wr => ix = .int .i64 0 ∧ OG w g0 (l ++ D.take k ++ [46] ++ D.drop k) v wr)
              case atStart => exact ⟨rfl, H7.out⟩
              case round =>
                obtain ⟨rfl, hh⟩ := hrel
                have HF : Aside (RetG w g0 (l ++ (sgn false ++ gTxt D (k : Int))) (.returned u0) wr) := HEND.out _ _ hh
                clear hh H7 HEND
                go_wp2
                go_ret
                exact HF.out
end Go.Proofs.Qxb6604548aDoor
