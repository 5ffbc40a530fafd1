import Derived.Test.Qxb6604548aDoorF8
namespace Go.Proofs.Qxb6604548aDoor
open Go.RowKit

set_option maxHeartbeats 2000000 in
set_option maxRecDepth 100000 in
theorem fmtF_nt (g0 bB : Nat) (l D : List UInt8) (v : Value) (dp : Int) (w : World) (hbB : bB ≠ g0) (hl : l.length ≤ 100) (hD1 : 1 ≤ D.length) (hD : D.length ≤ 20) (hdp : -3 ≤ dp ∧ dp ≤ 6) (hpo : dp ≤ 0)
    (hc : ∀ (j : Nat) (c : UInt8), D[j]? = some c → w.cell? ⟨bB, j, none⟩ = some (.int .u8 c.toNat)) (ho : OG w g0 l v w) :
    Calls Tryd.prog 27 #[v, .bool true, .slice (some ⟨bB, 0, none⟩) 32 32, .int .i64 dp, .int .i64 (D.length : Int), .int .i64 (D.length : Int), .int .u8 103, .bool true] w fun e w' => RetG w g0 (l ++ (sgn true ++ gTxt D dp)) e w' := by
  have HC : Aside (∀ (j : Nat) (c : UInt8), D[j]? = some c → w.cell? ⟨bB, j, none⟩ = some (.int .u8 c.toNat)) := hc
  have HO : Aside (OG w g0 l v w) := ho
  clear hc ho
  obtain ⟨q, rfl⟩ : ∃ q : Nat, dp = -(q : Int) := ⟨(-dp).toNat, by omega⟩
  have HEND : Aside (∀ v' w', OG w g0 ((l ++ [45]) ++ [48] ++ [46] ++ List.replicate q 48 ++ D) v' w' → RetG w g0 (l ++ (sgn true ++ gTxt D (-(q : Int)))) (.returned v') w') := fun v' w' hh => ⟨v', rfl, by
    rw [gTxt, if_neg (by omega), fTxt, if_neg (by omega), if_pos (by omega), Int.neg_neg, Int.toNat_natCast, show (-(q : Int)).toNat = 0 by omega]
    simpa [sgn] using hh⟩
  generalize hnl : D.length = nl at *
  have hq1 : ¬ (-(q : Int) - 1 < -4) := by omega
  have hq2 : ¬ (6 ≤ -(q : Int) - 1) := by omega
  have hq3 : ¬ ((0 : Int) < -(q : Int)) := by omega
  have hgt : -(q : Int) < (nl : Int) := by omega
  obtain ⟨sm, hsm⟩ : ∃ sm : Nat, (nl : Int) + (q : Int) = (sm : Int) := ⟨nl + q, by omega⟩
  have hmax : max ((nl : Int) + (q : Int)) 0 = (sm : Int) := by omega
  have hmn1 : min (sm : Int) (q : Int) = (q : Int) := by omega
  have hsq : (sm : Int) - (q : Int) = (nl : Int) := by omega
  have hsm0 : (0 : Int) < (sm : Int) := by omega
  have hof : -(q : Int) + (q : Int) = 0 := by omega
  have hm3 : max (0 : Int) (nl : Int) = (nl : Int) := by omega
  go_enter Tryd.func27, Tryd.ntmps27
  go_wp2_with (first
    | (at_builtin; refine wpList_og _ rfl (.tmp 179) (.tmp 180) rfl rfl (HO.out.alloc _) ⟨w.heap.size, 0, none⟩ 1 1 [45] rfl rfl (cells_lit _ [45] _ rfl) (by decide) (by simp; omega) ?_; intro v1 w1 hh; have H1 : Aside (OG w g0 (l ++ [45]) v1 w1) := hh; clear hh)
    | (at_builtin; refine wpList_og _ rfl (.tmp 209) (.tmp 210) rfl rfl (H1.out.alloc _) ⟨w1.heap.size, 0, none⟩ 1 1 [48] rfl rfl (cells_lit _ [48] _ rfl) (by decide) (by simp; omega) ?_; intro v2 w2 hh; have H2 : Aside (OG w g0 ((l ++ [45]) ++ [48]) v2 w2) := hh; clear hh)
    | (at_builtin; refine wpList_og _ rfl (.tmp 214) (.tmp 215) rfl rfl (H2.out.alloc _) ⟨w2.heap.size, 0, none⟩ 1 1 [46] rfl rfl (cells_lit _ [46] _ rfl) (by decide) (by simp; omega) ?_; intro v3 w3 hh; have H3 : Aside (OG w g0 ((l ++ [45]) ++ [48] ++ [46]) v3 w3) := hh; clear hh)
    | fail)
  go_loopg [0, 240] q (fun kk v ix wr => ∃ k : Nat, kk = q - k ∧ k ≤ q ∧ ix = .int .i64 k ∧ OG w g0 ((l ++ [45]) ++ [48] ++ [46] ++ List.replicate k 48) v wr)
  case atStart => exact ⟨0, rfl, Nat.zero_le _, rfl, by simpa using H3.out⟩
  case round =>
    obtain ⟨k, rfl, hk, rfl, hh⟩ := hrel
    have H4 : Aside (OG w g0 ((l ++ [45]) ++ [48] ++ [46] ++ List.replicate k 48) u0 wr) := hh
    clear hh
    by_cases hlt : k < q
    · have hlt' : (k : Int) < (q : Int) := by omega
      have HRP : Aside (List.replicate (k + 1) (48 : UInt8) = List.replicate k 48 ++ [48]) := rep_snoc k
      go_wp2_with (first
        | (at_builtin; refine wpList_og _ rfl (.tmp 242) (.tmp 243) rfl rfl (H4.out.alloc _) ⟨wr.heap.size, 0, none⟩ 1 1 [48] rfl rfl (cells_lit _ [48] _ rfl) (by decide) (by simp; omega) ?_; intro v5 w5 hh; have H5 : Aside (OG w g0 ((l ++ [45]) ++ [48] ++ [46] ++ List.replicate (k + 1) 48) v5 w5) := (by rw [Aside, HRP.out]; simpa using hh); clear hh)
        | fail)
      go_roundg (q - (k + 1))
      case measure => omega
      case rel => exact ⟨k + 1, rfl, by omega, by go_num, H5.out⟩
    · obtain rfl : k = q := by omega
      have hlt' : ¬ (k : Int) < (k : Int) := by omega
      clear H3
      go_wp2_with fail
      go_loopg [0, 247] nl (fun kk v ix wr => ∃ j : Nat, kk = nl - j ∧ j ≤ nl ∧ ix = .int .i64 j ∧ OG w g0 ((l ++ [45]) ++ [48] ++ [46] ++ List.replicate k 48 ++ D.take j) v wr)
      case atStart => exact ⟨0, rfl, Nat.zero_le _, rfl, by simpa using H4.out⟩
      case round =>
        obtain ⟨j, rfl, hj, rfl, hh⟩ := hrel
        have H5 : Aside (OG w g0 ((l ++ [45]) ++ [48] ++ [46] ++ List.replicate k 48 ++ D.take j) u0 wr) := hh
        clear hh H4
        by_cases hlt2 : j < nl
        · have hjl : j < D.length := by omega
          have hcell := H5.out.cell (HC.out j D[j] (List.getElem?_eq_getElem hjl)) hbB
          have hlt2' : (j : Int) < (nl : Int) := by omega
          have HTK : Aside (D.take (j + 1) = D.take j ++ [D[j]]) := take_snoc' hjl
          generalize D[j] = x at *
          go_wp2_with (first
            | (at_builtin; refine wpList_og _ rfl (.tmp 250) (.tmp 257) rfl rfl (H5.out.alloc _) ⟨wr.heap.size, 0, none⟩ 1 1 [x] rfl rfl (cells_lit _ [x] _ rfl) (by decide) (by simp; omega) ?_; intro v6 w6 hh; have H6 : Aside (OG w g0 ((l ++ [45]) ++ [48] ++ [46] ++ List.replicate k 48 ++ D.take (j + 1)) v6 w6) := (by rw [Aside, HTK.out]; simpa using hh); clear hh)
            | fail)
          go_roundg (nl - (j + 1))
          case measure => omega
          case rel => exact ⟨j + 1, rfl, by omega, by go_num, H6.out⟩
        · obtain rfl : j = nl := by omega
          have H6 : Aside (OG w g0 ((l ++ [45]) ++ [48] ++ [46] ++ List.replicate k 48 ++ D) u0 wr) := by
            have := H5.out
            rw [List.take_of_length_le (by omega)] at this
            exact this
          clear H5
          have hlt2' : ¬ (j : Int) < (j : Int) := by omega
          go_wp2_with fail
          go_loopg [0, 261] 0 (fun _ v ix wr => ix = .int .i64 0 ∧ OG w g0 ((l ++ [45]) ++ [48] ++ [46] ++ List.replicate k 48 ++ D) v wr)
          case atStart => exact ⟨rfl, H6.out⟩
          case round =>
            obtain ⟨rfl, hh⟩ := hrel
            have HF : Aside (RetG w g0 (l ++ (sgn true ++ gTxt D (-(k : Int)))) (.returned u0) wr) := HEND.out _ _ hh
            clear hh H6 HEND
            go_wp2
            go_ret
            exact HF.out

set_option maxHeartbeats 2000000 in
set_option maxRecDepth 100000 in
theorem fmtF_nf (g0 bB : Nat) (l D : List UInt8) (v : Value) (dp : Int) (w : World) (hbB : bB ≠ g0) (hl : l.length ≤ 100) (hD1 : 1 ≤ D.length) (hD : D.length ≤ 20) (hdp : -3 ≤ dp ∧ dp ≤ 6) (hpo : dp ≤ 0)
    (hc : ∀ (j : Nat) (c : UInt8), D[j]? = some c → w.cell? ⟨bB, j, none⟩ = some (.int .u8 c.toNat)) (ho : OG w g0 l v w) :
    Calls Tryd.prog 27 #[v, .bool false, .slice (some ⟨bB, 0, none⟩) 32 32, .int .i64 dp, .int .i64 (D.length : Int), .int .i64 (D.length : Int), .int .u8 103, .bool true] w fun e w' => RetG w g0 (l ++ (sgn false ++ gTxt D dp)) e w' := by
  have HC : Aside (∀ (j : Nat) (c : UInt8), D[j]? = some c → w.cell? ⟨bB, j, none⟩ = some (.int .u8 c.toNat)) := hc
  have HO : Aside (OG w g0 l v w) := ho
  clear hc ho
  obtain ⟨q, rfl⟩ : ∃ q : Nat, dp = -(q : Int) := ⟨(-dp).toNat, by omega⟩
  have HEND : Aside (∀ v' w', OG w g0 (l ++ [48] ++ [46] ++ List.replicate q 48 ++ D) v' w' → RetG w g0 (l ++ (sgn false ++ gTxt D (-(q : Int)))) (.returned v') w') := fun v' w' hh => ⟨v', rfl, by
    rw [gTxt, if_neg (by omega), fTxt, if_neg (by omega), if_pos (by omega), Int.neg_neg, Int.toNat_natCast, show (-(q : Int)).toNat = 0 by omega]
    simpa [sgn] using hh⟩
  generalize hnl : D.length = nl at *
  have hq1 : ¬ (-(q : Int) - 1 < -4) := by omega
  have hq2 : ¬ (6 ≤ -(q : Int) - 1) := by omega
  have hq3 : ¬ ((0 : Int) < -(q : Int)) := by omega
  have hgt : -(q : Int) < (nl : Int) := by omega
  obtain ⟨sm, hsm⟩ : ∃ sm : Nat, (nl : Int) + (q : Int) = (sm : Int) := ⟨nl + q, by omega⟩
  have hmax : max ((nl : Int) + (q : Int)) 0 = (sm : Int) := by omega
  have hmn1 : min (sm : Int) (q : Int) = (q : Int) := by omega
  have hsq : (sm : Int) - (q : Int) = (nl : Int) := by omega
  have hsm0 : (0 : Int) < (sm : Int) := by omega
  have hof : -(q : Int) + (q : Int) = 0 := by omega
  have hm3 : max (0 : Int) (nl : Int) = (nl : Int) := by omega
  go_enter Tryd.func27, Tryd.ntmps27
  go_wp2_with (first
    | (at_builtin; refine wpList_og _ rfl (.tmp 209) (.tmp 210) rfl rfl (HO.out.alloc _) ⟨w.heap.size, 0, none⟩ 1 1 [48] rfl rfl (cells_lit _ [48] _ rfl) (by decide) (by simp; omega) ?_; intro v2 w2 hh; have H2 : Aside (OG w g0 (l ++ [48]) v2 w2) := hh; clear hh)
    | (at_builtin; refine wpList_og _ rfl (.tmp 214) (.tmp 215) rfl rfl (H2.out.alloc _) ⟨w2.heap.size, 0, none⟩ 1 1 [46] rfl rfl (cells_lit _ [46] _ rfl) (by decide) (by simp; omega) ?_; intro v3 w3 hh; have H3 : Aside (OG w g0 (l ++ [48] ++ [46]) v3 w3) := hh; clear hh)
    | fail)
  go_loopg [0, 240] q (fun kk v ix wr => ∃ k : Nat, kk = q - k ∧ k ≤ q ∧ ix = .int .i64 k ∧ OG w g0 (l ++ [48] ++ [46] ++ List.replicate k 48) v wr)
  case atStart => exact ⟨0, rfl, Nat.zero_le _, rfl, by simpa using H3.out⟩
  case round =>
    obtain ⟨k, rfl, hk, rfl, hh⟩ := hrel
    have H4 : Aside (OG w g0 (l ++ [48] ++ [46] ++ List.replicate k 48) u0 wr) := hh
    clear hh
    by_cases hlt : k < q
    · have hlt' : (k : Int) < (q : Int) := by omega
      have HRP : Aside (List.replicate (k + 1) (48 : UInt8) = List.replicate k 48 ++ [48]) := rep_snoc k
      go_wp2_with (first
        | (at_builtin; refine wpList_og _ rfl (.tmp 242) (.tmp 243) rfl rfl (H4.out.alloc _) ⟨wr.heap.size, 0, none⟩ 1 1 [48] rfl rfl (cells_lit _ [48] _ rfl) (by decide) (by simp; omega) ?_; intro v5 w5 hh; have H5 : Aside (OG w g0 (l ++ [48] ++ [46] ++ List.replicate (k + 1) 48) v5 w5) := (by rw [Aside, HRP.out]; simpa using hh); clear hh)
        | fail)
      go_roundg (q - (k + 1))
      case measure => omega
      case rel => exact ⟨k + 1, rfl, by omega, by go_num, H5.out⟩
    · obtain rfl : k = q := by omega
      have hlt' : ¬ (k : Int) < (k : Int) := by omega
      clear H3
      go_wp2_with fail
      go_loopg [0, 247] nl (fun kk v ix wr => ∃ j : Nat, kk = nl - j ∧ j ≤ nl ∧ ix = .int .i64 j ∧ OG w g0 (l ++ [48] ++ [46] ++ List.replicate k 48 ++ D.take j) v wr)
      case atStart => exact ⟨0, rfl, Nat.zero_le _, rfl, by simpa using H4.out⟩
      case round =>
        obtain ⟨j, rfl, hj, rfl, hh⟩ := hrel
        have H5 : Aside (OG w g0 (l ++ [48] ++ [46] ++ List.replicate k 48 ++ D.take j) u0 wr) := hh
        clear hh H4
        by_cases hlt2 : j < nl
        · have hjl : j < D.length := by omega
          have hcell := H5.out.cell (HC.out j D[j] (List.getElem?_eq_getElem hjl)) hbB
          have hlt2' : (j : Int) < (nl : Int) := by omega
          have HTK : Aside (D.take (j + 1) = D.take j ++ [D[j]]) := take_snoc' hjl
          generalize D[j] = x at *
          go_wp2_with (first
            | (at_builtin; refine wpList_og _ rfl (.tmp 250) (.tmp 257) rfl rfl (H5.out.alloc _) ⟨wr.heap.size, 0, none⟩ 1 1 [x] rfl rfl (cells_lit _ [x] _ rfl) (by decide) (by simp; omega) ?_; intro v6 w6 hh; have H6 : Aside (OG w g0 (l ++ [48] ++ [46] ++ List.replicate k 48 ++ D.take (j + 1)) v6 w6) := (by rw [Aside, HTK.out]; simpa using hh); clear hh)
            | fail)
          go_roundg (nl - (j + 1))
          case measure => omega
          case rel => exact ⟨j + 1, rfl, by omega, by go_num, H6.out⟩
        · obtain rfl : j = nl := by omega
          have H6 : Aside (OG w g0 (l ++ [48] ++ [46] ++ List.replicate k 48 ++ D) u0 wr) := by
            have := H5.out
            rw [List.take_of_length_le (by omega)] at this
            exact this
          clear H5
          have hlt2' : ¬ (j : Int) < (j : Int) := by omega
          go_wp2_with fail
          go_loopg [0, 261] 0 (fun _ v ix wr => ix = .int .i64 0 ∧ OG w g0 (l ++ [48] ++ [46] ++ List.replicate k 48 ++ D) v wr)
          case atStart => exact ⟨rfl, H6.out⟩
          case round =>
            obtain ⟨rfl, hh⟩ := hrel
            have HF : Aside (RetG w g0 (l ++ (sgn false ++ gTxt D (-(k : Int)))) (.returned u0) wr) := HEND.out _ _ hh
            clear hh H6 HEND
            go_wp2
            go_ret
            exact HF.out
end Go.Proofs.Qxb6604548aDoor
