import Derived.Test.Qxb6604548aDoorF9
import Derived.Test.Qxb6604548aDoorFa
namespace Go.Proofs.Qxb6604548aDoor
open Go.RowKit

/-- fmtEFG at digits: 'g', shortest. -/
theorem fmt_any (g0 bB : Nat) (l D : List UInt8) (v : Value) (neg : Bool) (dp : Int) (w : World) (hbB : bB ≠ g0) (hl : l.length ≤ 100) (hD1 : 1 ≤ D.length) (hD : D.length ≤ 20) (hdp : -900 ≤ dp ∧ dp ≤ 900)
    (hc : ∀ (j : Nat) (c : UInt8), D[j]? = some c → w.cell? ⟨bB, j, none⟩ = some (.int .u8 c.toNat)) (ho : OG w g0 l v w) :
    Calls Tryd.prog 27 #[v, .bool neg, .slice (some ⟨bB, 0, none⟩) 32 32, .int .i64 dp, .int .i64 (D.length : Int), .int .i64 (D.length : Int), .int .u8 103, .bool true] w fun e w' => RetG w g0 (l ++ (sgn neg ++ gTxt D dp)) e w' := by
  by_cases h1 : dp - 1 < -4
  · cases D with
    | nil => simp at hD1
    | cons d t =>
      simp only [List.length_cons] at hD ⊢
      cases neg
      · exact fmtE_nf g0 bB l t d v dp w hbB hl (by omega) hdp h1 hc ho
      · exact fmtE_nt g0 bB l t d v dp w hbB hl (by omega) hdp h1 hc ho
  · by_cases h2 : 6 ≤ dp - 1
    · cases D with
      | nil => simp at hD1
      | cons d t =>
        simp only [List.length_cons] at hD ⊢
        cases neg
        · exact fmtE_pf g0 bB l t d v dp w hbB hl (by omega) hdp h2 hc ho
        · exact fmtE_pt g0 bB l t d v dp w hbB hl (by omega) hdp h2 hc ho
    · by_cases h3 : dp ≤ 0
      · cases neg
        · exact fmtF_nf g0 bB l D v dp w hbB hl hD1 hD (by omega) h3 hc ho
        · exact fmtF_nt g0 bB l D v dp w hbB hl hD1 hD (by omega) h3 hc ho
      · by_cases h4 : (D.length : Int) ≤ dp
        · cases neg
          · exact fmtF_lf g0 bB l D v dp w hbB hl hD1 hD (by omega) h4 hc ho
          · exact fmtF_lt g0 bB l D v dp w hbB hl hD1 hD (by omega) h4 hc ho
        · cases neg
          · exact fmtF_pf g0 bB l D v dp w hbB hl hD1 hD (by omega) (by omega) (by omega) hc ho
          · exact fmtF_pt g0 bB l D v dp w hbB hl hD1 hD (by omega) (by omega) (by omega) hc ho

set_option maxHeartbeats 2000000 in
set_option maxRecDepth 100000 in
theorem fmt_zero (g0 : Nat) (l : List UInt8) (v : Value) (neg : Bool) (w : World) (hl : l.length ≤ 100) (ho : OG w g0 l v w) :
    Calls Tryd.prog 27 #[v, .bool neg, .slice none 0 0, .int .i64 0, .int .i64 0, .int .i64 (-1), .int .u8 103, .bool true] w fun e w' => RetG w g0 (l ++ (sgn neg ++ [48])) e w' := by
  have HO : Aside (OG w g0 l v w) := ho
  clear ho
  have hmax : max (-1 : Int) 0 = 0 := by omega
  go_enter Tryd.func27, Tryd.ntmps27
  cases neg with
  | true =>
    go_wp2_with (first
      | (at_builtin; refine wpList_og _ rfl (.tmp 179) (.tmp 180) rfl rfl (HO.out.alloc _) ⟨w.heap.size, 0, none⟩ 1 1 [45] rfl rfl (cells_lit _ [45] _ rfl) (by decide) (by simp; omega) ?_; intro v1 w1 hh; have H1 : Aside (OG w g0 (l ++ [45]) v1 w1) := hh; clear hh)
      | (at_builtin; refine wpList_og _ rfl (.tmp 209) (.tmp 210) rfl rfl (H1.out.alloc _) ⟨w1.heap.size, 0, none⟩ 1 1 [48] rfl rfl (cells_lit _ [48] _ rfl) (by decide) (by simp; omega) ?_; intro v2 w2 hh; have H2 : Aside (OG w g0 (l ++ [45] ++ [48]) v2 w2) := hh; clear hh)
      | fail)
    go_ret
    exact ⟨_, rfl, by simpa [sgn] using H2.out⟩
  | false =>
    go_wp2_with (first
      | (at_builtin; refine wpList_og _ rfl (.tmp 209) (.tmp 210) rfl rfl (HO.out.alloc _) ⟨w.heap.size, 0, none⟩ 1 1 [48] rfl rfl (cells_lit _ [48] _ rfl) (by decide) (by simp; omega) ?_; intro v2 w2 hh; have H2 : Aside (OG w g0 (l ++ [48]) v2 w2) := hh; clear hh)
      | fail)
    go_ret
    exact ⟨_, rfl, by simpa [sgn] using H2.out⟩
end Go.Proofs.Qxb6604548aDoor
