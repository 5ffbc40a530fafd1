import Derived.Test.Qxb6604548aDoorF1
namespace Go.Proofs.Qxb6604548aDoor
open Go.RowKit

def RetG (w : World) (g0 : Nat) (l : List UInt8) (e : Ending) (w' : World) : Prop := ∃ v, e = .returned v ∧ OG w g0 l v w'
def hd0 (D : List UInt8) : UInt8 := match D with | [] => 48 | d :: _ => d
theorem mant_len (D : List UInt8) : (mant D).length ≤ D.length + 2 := by
  unfold mant
  split <;> simp
theorem mant_one' {D : List UInt8} (h : D.length ≤ 1) : mant D = [hd0 D] := by
  match D, h with
  | [], _ => rfl
  | [d], _ => rfl
theorem mant_more {D : List UInt8} (h : 2 ≤ D.length) : mant D = [hd0 D] ++ [46] ++ D.drop 1 := by
  match D, h with
  | d :: e :: t, _ => rfl

theorem drop_cells {w wr : World} {g0 bB k : Nat} {l D : List UInt8} {v : Value} (hc : ∀ (j : Nat) (c : UInt8), D[j]? = some c → w.cell? ⟨bB, j, none⟩ = some (.int .u8 c.toNat)) (ho : OG w g0 l v wr) (hb : bB ≠ g0) : ∀ j u, (Lib.byteCells (D.drop k))[j]? = some u → wr.cell? ((⟨bB, k, none⟩ : Addr).add j) = some u := by
  intro j u hu
  rw [Addr.add_lit]
  simp only [Lib.byteCells, List.getElem?_map, List.getElem?_drop, Option.map_eq_some_iff] at hu
  obtain ⟨c, h1, rfl⟩ := hu
  exact ho.cell (hc _ c h1) hb

theorem dg_nat {m : Nat} (h : m < 10) : (dg m).toNat = 48 + m := by
  simp [dg]; omega
theorem ec1 {n : Nat} (h : n < 10) : [Value.int .u8 48, .int .u8 ((n : Int) + 48)] = Lib.byteCells (exp2 n) := by
  rw [exp2, if_pos h, Lib.byteCells, List.map_cons, List.map_cons, dg_nat h, List.map_nil, show ((48 + n : Nat) : Int) = (n : Int) + 48 by omega]; rfl
theorem ec2 {n : Nat} (h : 10 ≤ n ∧ n < 100) : [Value.int .u8 ((n : Int) / 10 + 48), .int .u8 ((n : Int) % 10 + 48)] = Lib.byteCells (exp2 n) := by
  rw [exp2, if_neg (by omega), if_pos h.2, Lib.byteCells, List.map_cons, List.map_cons, dg_nat (by omega), dg_nat (by omega), List.map_nil, show ((48 + n / 10 : Nat) : Int) = (n : Int) / 10 + 48 by omega, show ((48 + n % 10 : Nat) : Int) = (n : Int) % 10 + 48 by omega]
theorem ec3 {n : Nat} (h : 100 ≤ n ∧ n < 1000) : [Value.int .u8 ((n : Int) / 100 + 48), .int .u8 ((n : Int) / 10 % 10 + 48), .int .u8 ((n : Int) % 10 + 48)] = Lib.byteCells (exp2 n) := by
  rw [exp2, if_neg (by omega), if_neg (by omega), Lib.byteCells, List.map_cons, List.map_cons, List.map_cons, dg_nat (by omega), dg_nat (by omega), dg_nat (by omega), List.map_nil, show ((48 + n / 100 : Nat) : Int) = (n : Int) / 100 + 48 by omega, show ((48 + n / 10 % 10 : Nat) : Int) = (n : Int) / 10 % 10 + 48 by omega, show ((48 + n % 10 : Nat) : Int) = (n : Int) % 10 + 48 by omega]
theorem len2a {n : Nat} (h : n < 10) : (exp2 n).length = 2 := by rw [exp2, if_pos h]; rfl
theorem len2b {n : Nat} (h : 10 ≤ n ∧ n < 100) : (exp2 n).length = 2 := by rw [exp2, if_neg (by omega), if_pos h.2]; rfl
theorem len3 {n : Nat} (h : 100 ≤ n ∧ n < 1000) : (exp2 n).length = 3 := by rw [exp2, if_neg (by omega), if_neg (by omega)]; rfl

set_option maxHeartbeats 2000000 in
set_option maxRecDepth 100000 in
theorem fmtE_pt (g0 bB : Nat) (l t : List UInt8) (d : UInt8) (v : Value) (dp : Int) (w : World) (hbB : bB ≠ g0) (hl : l.length ≤ 100) (hD : t.length ≤ 19) (hdp : -900 ≤ dp ∧ dp ≤ 900) (h1 : 6 ≤ dp - 1)
    (hc : ∀ (j : Nat) (c : UInt8), (d :: t)[j]? = some c → w.cell? ⟨bB, j, none⟩ = some (.int .u8 c.toNat)) (ho : OG w g0 l v w) :
    Calls Tryd.prog 27 #[v, .bool true, .slice (some ⟨bB, 0, none⟩) 32 32, .int .i64 dp, .int .i64 ((t.length + 1 : Nat) : Int), .int .i64 ((t.length + 1 : Nat) : Int), .int .u8 103, .bool true] w fun e w' => RetG w g0 (l ++ (sgn true ++ gTxt (d :: t) dp)) e w' := by
  have HC : Aside (∀ (j : Nat) (c : UInt8), (d :: t)[j]? = some c → w.cell? ⟨bB, j, none⟩ = some (.int .u8 c.toNat)) := hc
  have HO : Aside (OG w g0 l v w) := ho
  clear hc ho
  obtain ⟨n, hn⟩ : ∃ n : Nat, dp - 1 = (n : Int) := ⟨(dp - 1).toNat, by omega⟩
  have hn9 : n ≤ 901 := by omega
  have HEND : Aside (∀ v' w', OG w g0 ((l ++ [45]) ++ mant (d :: t) ++ [101] ++ [43] ++ exp2 n) v' w' → RetG w g0 (l ++ (sgn true ++ gTxt (d :: t) dp)) (.returned v') w') := fun v' w' hh => ⟨v', rfl, by
    have e : (if (d :: t) = [] then (0 : Int) else dp - 1) = (n : Int) := by rw [if_neg (by simp)]; exact hn
    rw [gTxt, if_pos (by omega), e, eTxt, if_neg (by omega), Int.natAbs_natCast]
    simpa [sgn] using hh⟩
  have hml := mant_len (d :: t)
  simp only [List.length_cons] at hml
  generalize hnl : t.length + 1 = nl at *
  have hnl1 : 1 ≤ nl := by omega
  have hnz : (((nl : Nat) : Int) == 0) = false := beq_eq_false_iff_ne.2 (by omega)
  have hnz2 : (((nl : Nat) : Int) != 0) = true := by rw [bne, hnz]; rfl
  go_enter Tryd.func27, Tryd.ntmps27
  go_upto_if 92 with (first
            | (at_builtin; refine wpList_og _ rfl (.tmp 79) (.tmp 80) rfl rfl (HO.out.alloc _) ⟨w.heap.size, 0, none⟩ 1 1 [45] rfl rfl (cells_lit _ [45] _ rfl) (by decide) (by simp; omega) ?_; intro v1 w1 hh; have H1 : Aside (OG w g0 (l ++ [45]) v1 w1) := hh; clear hh; have h0 := H1.out.cell (HC.out 0 d rfl) hbB)
            | (at_builtin; refine wpList_og _ rfl (.tmp 87) (.tmp 89) rfl rfl (H1.out.alloc _) ⟨w1.heap.size, 0, none⟩ 1 1 [d] rfl rfl (cells_lit _ [d] _ rfl) (by decide) (by simp; omega) ?_; intro v2 w2 hh; have H2 : Aside (OG w g0 ((l ++ [45]) ++ [d]) v2 w2) := hh; clear hh)
            | fail)
  go_cut [0] (fun v wx => OG w g0 ((l ++ [45]) ++ mant (d :: t)) v wx)
  case first =>
    by_cases hD2 : 2 ≤ nl
    · have hm : mant (d :: t) = [d] ++ [46] ++ t := by
        cases t with
        | nil => simp at hnl; omega
        | cons e t => rfl
      have hpos : (0 : Int) < (nl : Int) - 1 := by omega
      have hmin : min (nl : Int) ((nl : Int) - 1 + 1) = (nl : Int) := by omega
      have hlt1 : (1 : Int) < (nl : Int) := by omega
      go_wp2_with (first
        | (at_builtin; refine wpList_og _ rfl (.tmp 93) (.tmp 94) rfl rfl (H2.out.alloc _) ⟨w2.heap.size, 0, none⟩ 1 1 [46] rfl rfl (cells_lit _ [46] _ rfl) (by decide) (by simp; omega) ?_; intro v3 w3 hh; have H3 : Aside (OG w g0 ((l ++ [45]) ++ [d] ++ [46]) v3 w3) := hh; clear hh)
        | (at_builtin; refine wpList_og _ rfl (.tmp 103) (.tmp 107) rfl rfl H3.out ⟨bB, 1, none⟩ (nl - 1) 31 t (by omega) rfl (drop_cells (k := 1) HC.out H3.out hbB) (by omega) (by simp; omega) ?_; intro v4 w4 hh; have H4 : Aside (OG w g0 ((l ++ [45]) ++ mant (d :: t)) v4 w4) := (by rw [Aside, hm]; simpa using hh); clear hh)
        | fail)
      have hz : ¬ (0 : Int) < (nl : Int) - 1 + 1 - (nl : Int) := by omega
      go_loopg [0, 114] 0 (fun _ v ix wr => ix = .int .i64 0 ∧ OG w g0 ((l ++ [45]) ++ mant (d :: t)) v wr)
      case atStart => exact ⟨rfl, H4.out⟩
      case round =>
        obtain ⟨rfl, hh⟩ := hrel
        have H5 : Aside (OG w g0 ((l ++ [45]) ++ mant (d :: t)) u0 wr) := hh
        clear hh H4 H3 H2
        go_wp2
        go_meet
        case rel => exact H5.out
    · have hm : mant (d :: t) = [d] := by
        cases t with
        | nil => rfl
        | cons e t => simp at hnl; omega
      have hpos : ¬ (0 : Int) < (nl : Int) - 1 := by omega
      go_wp2
      go_meet
      case rel => exact (by rw [hm]; exact H2.out)
  case rest =>
    have H3 : Aside (OG w g0 ((l ++ [45]) ++ mant (d :: t)) u0 wc) := hcut
    clear hcut H2
    have hdpn : dp = (n : Int) + 1 := by omega
    subst hdpn
    clear hn
    by_cases n10 : n < 10
    · have n10' : (n : Int) < 10 := by omega
      go_wp2_with (first
        | (at_builtin; refine wpList_og _ rfl (.tmp 120) (.tmp 122) rfl rfl (H3.out.alloc _) ⟨wc.heap.size, 0, none⟩ 1 1 [101] rfl rfl (cells_lit _ [101] _ rfl) (by decide) (by simp; omega) ?_; intro v4 w4 hh; have H4 : Aside (OG w g0 ((l ++ [45]) ++ mant (d :: t) ++ [101]) v4 w4) := hh; clear hh)
        | (at_builtin; refine wpList_og _ rfl (.tmp 132) (.tmp 134) rfl rfl (H4.out.alloc _) ⟨w4.heap.size, 0, none⟩ 1 1 [43] rfl rfl (cells_lit _ [43] _ rfl) (by decide) (by simp; omega) ?_; intro v5 w5 hh; have H5 : Aside (OG w g0 ((l ++ [45]) ++ mant (d :: t) ++ [101] ++ [43]) v5 w5) := hh; clear hh)
        | (at_builtin; refine wpList_og _ rfl (.tmp 155) (.tmp 159) rfl rfl (H5.out.alloc _) ⟨w5.heap.size, 0, none⟩ 2 2 (exp2 n) (len2a (by omega)) rfl (cells_lit _ (exp2 n) _ (ec1 (by omega))) (by decide) (by rw [len2a (by omega)]; simp; omega) ?_; intro v6 w6 hh; have H6 : Aside (OG w g0 ((l ++ [45]) ++ mant (d :: t) ++ [101] ++ [43] ++ exp2 n) v6 w6) := hh; clear hh)
        | fail)
      go_ret
      exact HEND.out _ _ H6.out
    · have n10' : ¬ (n : Int) < 10 := by omega
      by_cases n100 : n < 100
      · have n100' : (n : Int) < 100 := by omega
        go_wp2_with (first
        | (at_builtin; refine wpList_og _ rfl (.tmp 120) (.tmp 122) rfl rfl (H3.out.alloc _) ⟨wc.heap.size, 0, none⟩ 1 1 [101] rfl rfl (cells_lit _ [101] _ rfl) (by decide) (by simp; omega) ?_; intro v4 w4 hh; have H4 : Aside (OG w g0 ((l ++ [45]) ++ mant (d :: t) ++ [101]) v4 w4) := hh; clear hh)
        | (at_builtin; refine wpList_og _ rfl (.tmp 132) (.tmp 134) rfl rfl (H4.out.alloc _) ⟨w4.heap.size, 0, none⟩ 1 1 [43] rfl rfl (cells_lit _ [43] _ rfl) (by decide) (by simp; omega) ?_; intro v5 w5 hh; have H5 : Aside (OG w g0 ((l ++ [45]) ++ mant (d :: t) ++ [101] ++ [43]) v5 w5) := hh; clear hh)
        | (at_builtin; refine wpList_og _ rfl (.tmp 164) (.tmp 173) rfl rfl (H5.out.alloc _) ⟨w5.heap.size, 0, none⟩ 2 2 (exp2 n) (len2b (by omega)) rfl (cells_lit _ (exp2 n) _ (ec2 (by omega))) (by decide) (by rw [len2b (by omega)]; simp; omega) ?_; intro v6 w6 hh; have H6 : Aside (OG w g0 ((l ++ [45]) ++ mant (d :: t) ++ [101] ++ [43] ++ exp2 n) v6 w6) := hh; clear hh)
        | fail)
        go_ret
        exact HEND.out _ _ H6.out
      · have n100' : ¬ (n : Int) < 100 := by omega
        go_wp2_with (first
        | (at_builtin; refine wpList_og _ rfl (.tmp 120) (.tmp 122) rfl rfl (H3.out.alloc _) ⟨wc.heap.size, 0, none⟩ 1 1 [101] rfl rfl (cells_lit _ [101] _ rfl) (by decide) (by simp; omega) ?_; intro v4 w4 hh; have H4 : Aside (OG w g0 ((l ++ [45]) ++ mant (d :: t) ++ [101]) v4 w4) := hh; clear hh)
        | (at_builtin; refine wpList_og _ rfl (.tmp 132) (.tmp 134) rfl rfl (H4.out.alloc _) ⟨w4.heap.size, 0, none⟩ 1 1 [43] rfl rfl (cells_lit _ [43] _ rfl) (by decide) (by simp; omega) ?_; intro v5 w5 hh; have H5 : Aside (OG w g0 ((l ++ [45]) ++ mant (d :: t) ++ [101] ++ [43]) v5 w5) := hh; clear hh)
        | (at_builtin; refine wpList_og _ rfl (.tmp 136) (.tmp 150) rfl rfl (H5.out.alloc _) ⟨w5.heap.size, 0, none⟩ 3 3 (exp2 n) (len3 (by omega)) rfl (cells_lit _ (exp2 n) _ (ec3 (by omega))) (by decide) (by rw [len3 (by omega)]; simp; omega) ?_; intro v6 w6 hh; have H6 : Aside (OG w g0 ((l ++ [45]) ++ mant (d :: t) ++ [101] ++ [43] ++ exp2 n) v6 w6) := hh; clear hh)
        | fail)
        go_ret
        exact HEND.out _ _ H6.out
set_option maxHeartbeats 2000000 in
set_option maxRecDepth 100000 in
theorem fmtE_nt (g0 bB : Nat) (l t : List UInt8) (d : UInt8) (v : Value) (dp : Int) (w : World) (hbB : bB ≠ g0) (hl : l.length ≤ 100) (hD : t.length ≤ 19) (hdp : -900 ≤ dp ∧ dp ≤ 900) (h1 : dp - 1 < -4)
    (hc : ∀ (j : Nat) (c : UInt8), (d :: t)[j]? = some c → w.cell? ⟨bB, j, none⟩ = some (.int .u8 c.toNat)) (ho : OG w g0 l v w) :
    Calls Tryd.prog 27 #[v, .bool true, .slice (some ⟨bB, 0, none⟩) 32 32, .int .i64 dp, .int .i64 ((t.length + 1 : Nat) : Int), .int .i64 ((t.length + 1 : Nat) : Int), .int .u8 103, .bool true] w fun e w' => RetG w g0 (l ++ (sgn true ++ gTxt (d :: t) dp)) e w' := by
  have HC : Aside (∀ (j : Nat) (c : UInt8), (d :: t)[j]? = some c → w.cell? ⟨bB, j, none⟩ = some (.int .u8 c.toNat)) := hc
  have HO : Aside (OG w g0 l v w) := ho
  clear hc ho
  obtain ⟨n, hn⟩ : ∃ n : Nat, dp - 1 = -(n : Int) := ⟨(-(dp - 1)).toNat, by omega⟩
  have hn9 : n ≤ 901 := by omega
  have HEND : Aside (∀ v' w', OG w g0 ((l ++ [45]) ++ mant (d :: t) ++ [101] ++ [45] ++ exp2 n) v' w' → RetG w g0 (l ++ (sgn true ++ gTxt (d :: t) dp)) (.returned v') w') := fun v' w' hh => ⟨v', rfl, by
    have e : (if (d :: t) = [] then (0 : Int) else dp - 1) = -(n : Int) := by rw [if_neg (by simp)]; exact hn
    rw [gTxt, if_pos (by omega), e, eTxt, if_pos (by omega), Int.natAbs_neg, Int.natAbs_natCast]
    simpa [sgn] using hh⟩
  have hml := mant_len (d :: t)
  simp only [List.length_cons] at hml
  generalize hnl : t.length + 1 = nl at *
  have hnl1 : 1 ≤ nl := by omega
  have hnz : (((nl : Nat) : Int) == 0) = false := beq_eq_false_iff_ne.2 (by omega)
  have hnz2 : (((nl : Nat) : Int) != 0) = true := by rw [bne, hnz]; rfl
  go_enter Tryd.func27, Tryd.ntmps27
  go_upto_if 92 with (first
            | (at_builtin; refine wpList_og _ rfl (.tmp 79) (.tmp 80) rfl rfl (HO.out.alloc _) ⟨w.heap.size, 0, none⟩ 1 1 [45] rfl rfl (cells_lit _ [45] _ rfl) (by decide) (by simp; omega) ?_; intro v1 w1 hh; have H1 : Aside (OG w g0 (l ++ [45]) v1 w1) := hh; clear hh; have h0 := H1.out.cell (HC.out 0 d rfl) hbB)
            | (at_builtin; refine wpList_og _ rfl (.tmp 87) (.tmp 89) rfl rfl (H1.out.alloc _) ⟨w1.heap.size, 0, none⟩ 1 1 [d] rfl rfl (cells_lit _ [d] _ rfl) (by decide) (by simp; omega) ?_; intro v2 w2 hh; have H2 : Aside (OG w g0 ((l ++ [45]) ++ [d]) v2 w2) := hh; clear hh)
            | fail)
  go_cut [0] (fun v wx => OG w g0 ((l ++ [45]) ++ mant (d :: t)) v wx)
  case first =>
    by_cases hD2 : 2 ≤ nl
    · have hm : mant (d :: t) = [d] ++ [46] ++ t := by
        cases t with
        | nil => simp at hnl; omega
        | cons e t => rfl
      have hpos : (0 : Int) < (nl : Int) - 1 := by omega
      have hmin : min (nl : Int) ((nl : Int) - 1 + 1) = (nl : Int) := by omega
      have hlt1 : (1 : Int) < (nl : Int) := by omega
      go_wp2_with (first
        | (at_builtin; refine wpList_og _ rfl (.tmp 93) (.tmp 94) rfl rfl (H2.out.alloc _) ⟨w2.heap.size, 0, none⟩ 1 1 [46] rfl rfl (cells_lit _ [46] _ rfl) (by decide) (by simp; omega) ?_; intro v3 w3 hh; have H3 : Aside (OG w g0 ((l ++ [45]) ++ [d] ++ [46]) v3 w3) := hh; clear hh)
        | (at_builtin; refine wpList_og _ rfl (.tmp 103) (.tmp 107) rfl rfl H3.out ⟨bB, 1, none⟩ (nl - 1) 31 t (by omega) rfl (drop_cells (k := 1) HC.out H3.out hbB) (by omega) (by simp; omega) ?_; intro v4 w4 hh; have H4 : Aside (OG w g0 ((l ++ [45]) ++ mant (d :: t)) v4 w4) := (by rw [Aside, hm]; simpa using hh); clear hh)
        | fail)
      have hz : ¬ (0 : Int) < (nl : Int) - 1 + 1 - (nl : Int) := by omega
      go_loopg [0, 114] 0 (fun _ v ix wr => ix = .int .i64 0 ∧ OG w g0 ((l ++ [45]) ++ mant (d :: t)) v wr)
      case atStart => exact ⟨rfl, H4.out⟩
      case round =>
        obtain ⟨rfl, hh⟩ := hrel
        have H5 : Aside (OG w g0 ((l ++ [45]) ++ mant (d :: t)) u0 wr) := hh
        clear hh H4 H3 H2
        go_wp2
        go_meet
        case rel => exact H5.out
    · have hm : mant (d :: t) = [d] := by
        cases t with
        | nil => rfl
        | cons e t => simp at hnl; omega
      have hpos : ¬ (0 : Int) < (nl : Int) - 1 := by omega
      go_wp2
      go_meet
      case rel => exact (by rw [hm]; exact H2.out)
  case rest =>
    have H3 : Aside (OG w g0 ((l ++ [45]) ++ mant (d :: t)) u0 wc) := hcut
    clear hcut H2
    have hdpn : dp = -(n : Int) + 1 := by omega
    subst hdpn
    clear hn
    by_cases n10 : n < 10
    · have n10' : (n : Int) < 10 := by omega
      go_wp2_with (first
        | (at_builtin; refine wpList_og _ rfl (.tmp 120) (.tmp 122) rfl rfl (H3.out.alloc _) ⟨wc.heap.size, 0, none⟩ 1 1 [101] rfl rfl (cells_lit _ [101] _ rfl) (by decide) (by simp; omega) ?_; intro v4 w4 hh; have H4 : Aside (OG w g0 ((l ++ [45]) ++ mant (d :: t) ++ [101]) v4 w4) := hh; clear hh)
        | (at_builtin; refine wpList_og _ rfl (.tmp 132) (.tmp 134) rfl rfl (H4.out.alloc _) ⟨w4.heap.size, 0, none⟩ 1 1 [45] rfl rfl (cells_lit _ [45] _ rfl) (by decide) (by simp; omega) ?_; intro v5 w5 hh; have H5 : Aside (OG w g0 ((l ++ [45]) ++ mant (d :: t) ++ [101] ++ [45]) v5 w5) := hh; clear hh)
        | (at_builtin; refine wpList_og _ rfl (.tmp 155) (.tmp 159) rfl rfl (H5.out.alloc _) ⟨w5.heap.size, 0, none⟩ 2 2 (exp2 n) (len2a (by omega)) rfl (cells_lit _ (exp2 n) _ (ec1 (by omega))) (by decide) (by rw [len2a (by omega)]; simp; omega) ?_; intro v6 w6 hh; have H6 : Aside (OG w g0 ((l ++ [45]) ++ mant (d :: t) ++ [101] ++ [45] ++ exp2 n) v6 w6) := hh; clear hh)
        | fail)
      go_ret
      exact HEND.out _ _ H6.out
    · have n10' : ¬ (n : Int) < 10 := by omega
      by_cases n100 : n < 100
      · have n100' : (n : Int) < 100 := by omega
        go_wp2_with (first
        | (at_builtin; refine wpList_og _ rfl (.tmp 120) (.tmp 122) rfl rfl (H3.out.alloc _) ⟨wc.heap.size, 0, none⟩ 1 1 [101] rfl rfl (cells_lit _ [101] _ rfl) (by decide) (by simp; omega) ?_; intro v4 w4 hh; have H4 : Aside (OG w g0 ((l ++ [45]) ++ mant (d :: t) ++ [101]) v4 w4) := hh; clear hh)
        | (at_builtin; refine wpList_og _ rfl (.tmp 132) (.tmp 134) rfl rfl (H4.out.alloc _) ⟨w4.heap.size, 0, none⟩ 1 1 [45] rfl rfl (cells_lit _ [45] _ rfl) (by decide) (by simp; omega) ?_; intro v5 w5 hh; have H5 : Aside (OG w g0 ((l ++ [45]) ++ mant (d :: t) ++ [101] ++ [45]) v5 w5) := hh; clear hh)
        | (at_builtin; refine wpList_og _ rfl (.tmp 164) (.tmp 173) rfl rfl (H5.out.alloc _) ⟨w5.heap.size, 0, none⟩ 2 2 (exp2 n) (len2b (by omega)) rfl (cells_lit _ (exp2 n) _ (ec2 (by omega))) (by decide) (by rw [len2b (by omega)]; simp; omega) ?_; intro v6 w6 hh; have H6 : Aside (OG w g0 ((l ++ [45]) ++ mant (d :: t) ++ [101] ++ [45] ++ exp2 n) v6 w6) := hh; clear hh)
        | fail)
        go_ret
        exact HEND.out _ _ H6.out
      · have n100' : ¬ (n : Int) < 100 := by omega
        go_wp2_with (first
        | (at_builtin; refine wpList_og _ rfl (.tmp 120) (.tmp 122) rfl rfl (H3.out.alloc _) ⟨wc.heap.size, 0, none⟩ 1 1 [101] rfl rfl (cells_lit _ [101] _ rfl) (by decide) (by simp; omega) ?_; intro v4 w4 hh; have H4 : Aside (OG w g0 ((l ++ [45]) ++ mant (d :: t) ++ [101]) v4 w4) := hh; clear hh)
        | (at_builtin; refine wpList_og _ rfl (.tmp 132) (.tmp 134) rfl rfl (H4.out.alloc _) ⟨w4.heap.size, 0, none⟩ 1 1 [45] rfl rfl (cells_lit _ [45] _ rfl) (by decide) (by simp; omega) ?_; intro v5 w5 hh; have H5 : Aside (OG w g0 ((l ++ [45]) ++ mant (d :: t) ++ [101] ++ [45]) v5 w5) := hh; clear hh)
        | (at_builtin; refine wpList_og _ rfl (.tmp 136) (.tmp 150) rfl rfl (H5.out.alloc _) ⟨w5.heap.size, 0, none⟩ 3 3 (exp2 n) (len3 (by omega)) rfl (cells_lit _ (exp2 n) _ (ec3 (by omega))) (by decide) (by rw [len3 (by omega)]; simp; omega) ?_; intro v6 w6 hh; have H6 : Aside (OG w g0 ((l ++ [45]) ++ mant (d :: t) ++ [101] ++ [45] ++ exp2 n) v6 w6) := hh; clear hh)
        | fail)
        go_ret
        exact HEND.out _ _ H6.out
set_option maxHeartbeats 2000000 in
set_option maxRecDepth 100000 in
theorem fmtE_pf (g0 bB : Nat) (l t : List UInt8) (d : UInt8) (v : Value) (dp : Int) (w : World) (hbB : bB ≠ g0) (hl : l.length ≤ 100) (hD : t.length ≤ 19) (hdp : -900 ≤ dp ∧ dp ≤ 900) (h1 : 6 ≤ dp - 1)
    (hc : ∀ (j : Nat) (c : UInt8), (d :: t)[j]? = some c → w.cell? ⟨bB, j, none⟩ = some (.int .u8 c.toNat)) (ho : OG w g0 l v w) :
    Calls Tryd.prog 27 #[v, .bool false, .slice (some ⟨bB, 0, none⟩) 32 32, .int .i64 dp, .int .i64 ((t.length + 1 : Nat) : Int), .int .i64 ((t.length + 1 : Nat) : Int), .int .u8 103, .bool true] w fun e w' => RetG w g0 (l ++ (sgn false ++ gTxt (d :: t) dp)) e w' := by
  have HC : Aside (∀ (j : Nat) (c : UInt8), (d :: t)[j]? = some c → w.cell? ⟨bB, j, none⟩ = some (.int .u8 c.toNat)) := hc
  have HO : Aside (OG w g0 l v w) := ho
  have h0 := HC.out 0 d rfl
  clear hc ho
  obtain ⟨n, hn⟩ : ∃ n : Nat, dp - 1 = (n : Int) := ⟨(dp - 1).toNat, by omega⟩
  have hn9 : n ≤ 901 := by omega
  have HEND : Aside (∀ v' w', OG w g0 (l ++ mant (d :: t) ++ [101] ++ [43] ++ exp2 n) v' w' → RetG w g0 (l ++ (sgn false ++ gTxt (d :: t) dp)) (.returned v') w') := fun v' w' hh => ⟨v', rfl, by
    have e : (if (d :: t) = [] then (0 : Int) else dp - 1) = (n : Int) := by rw [if_neg (by simp)]; exact hn
    rw [gTxt, if_pos (by omega), e, eTxt, if_neg (by omega), Int.natAbs_natCast]
    simpa [sgn] using hh⟩
  have hml := mant_len (d :: t)
  simp only [List.length_cons] at hml
  generalize hnl : t.length + 1 = nl at *
  have hnl1 : 1 ≤ nl := by omega
  have hnz : (((nl : Nat) : Int) == 0) = false := beq_eq_false_iff_ne.2 (by omega)
  have hnz2 : (((nl : Nat) : Int) != 0) = true := by rw [bne, hnz]; rfl
  go_enter Tryd.func27, Tryd.ntmps27
  go_upto_if 92 with (first
            | (at_builtin; refine wpList_og _ rfl (.tmp 87) (.tmp 89) rfl rfl (HO.out.alloc _) ⟨w.heap.size, 0, none⟩ 1 1 [d] rfl rfl (cells_lit _ [d] _ rfl) (by decide) (by simp; omega) ?_; intro v2 w2 hh; have H2 : Aside (OG w g0 (l ++ [d]) v2 w2) := hh; clear hh)
            | fail)
  go_cut [0] (fun v wx => OG w g0 (l ++ mant (d :: t)) v wx)
  case first =>
    by_cases hD2 : 2 ≤ nl
    · have hm : mant (d :: t) = [d] ++ [46] ++ t := by
        cases t with
        | nil => simp at hnl; omega
        | cons e t => rfl
      have hpos : (0 : Int) < (nl : Int) - 1 := by omega
      have hmin : min (nl : Int) ((nl : Int) - 1 + 1) = (nl : Int) := by omega
      have hlt1 : (1 : Int) < (nl : Int) := by omega
      go_wp2_with (first
        | (at_builtin; refine wpList_og _ rfl (.tmp 93) (.tmp 94) rfl rfl (H2.out.alloc _) ⟨w2.heap.size, 0, none⟩ 1 1 [46] rfl rfl (cells_lit _ [46] _ rfl) (by decide) (by simp; omega) ?_; intro v3 w3 hh; have H3 : Aside (OG w g0 (l ++ [d] ++ [46]) v3 w3) := hh; clear hh)
        | (at_builtin; refine wpList_og _ rfl (.tmp 103) (.tmp 107) rfl rfl H3.out ⟨bB, 1, none⟩ (nl - 1) 31 t (by omega) rfl (drop_cells (k := 1) HC.out H3.out hbB) (by omega) (by simp; omega) ?_; intro v4 w4 hh; have H4 : Aside (OG w g0 (l ++ mant (d :: t)) v4 w4) := (by rw [Aside, hm]; simpa using hh); clear hh)
        | fail)
      have hz : ¬ (0 : Int) < (nl : Int) - 1 + 1 - (nl : Int) := by omega
      go_loopg [0, 114] 0 (fun _ v ix wr => ix = .int .i64 0 ∧ OG w g0 (l ++ mant (d :: t)) v wr)
      case atStart => exact ⟨rfl, H4.out⟩
      case round =>
        obtain ⟨rfl, hh⟩ := hrel
        have H5 : Aside (OG w g0 (l ++ mant (d :: t)) u0 wr) := hh
        clear hh H4 H3 H2
        go_wp2
        go_meet
        case rel => exact H5.out
    · have hm : mant (d :: t) = [d] := by
        cases t with
        | nil => rfl
        | cons e t => simp at hnl; omega
      have hpos : ¬ (0 : Int) < (nl : Int) - 1 := by omega
      go_wp2
      go_meet
      case rel => exact (by rw [hm]; exact H2.out)
  case rest =>
    have H3 : Aside (OG w g0 (l ++ mant (d :: t)) u0 wc) := hcut
    clear hcut H2
    have hdpn : dp = (n : Int) + 1 := by omega
    subst hdpn
    clear hn
    by_cases n10 : n < 10
    · have n10' : (n : Int) < 10 := by omega
      go_wp2_with (first
        | (at_builtin; refine wpList_og _ rfl (.tmp 120) (.tmp 122) rfl rfl (H3.out.alloc _) ⟨wc.heap.size, 0, none⟩ 1 1 [101] rfl rfl (cells_lit _ [101] _ rfl) (by decide) (by simp; omega) ?_; intro v4 w4 hh; have H4 : Aside (OG w g0 (l ++ mant (d :: t) ++ [101]) v4 w4) := hh; clear hh)
        | (at_builtin; refine wpList_og _ rfl (.tmp 132) (.tmp 134) rfl rfl (H4.out.alloc _) ⟨w4.heap.size, 0, none⟩ 1 1 [43] rfl rfl (cells_lit _ [43] _ rfl) (by decide) (by simp; omega) ?_; intro v5 w5 hh; have H5 : Aside (OG w g0 (l ++ mant (d :: t) ++ [101] ++ [43]) v5 w5) := hh; clear hh)
        | (at_builtin; refine wpList_og _ rfl (.tmp 155) (.tmp 159) rfl rfl (H5.out.alloc _) ⟨w5.heap.size, 0, none⟩ 2 2 (exp2 n) (len2a (by omega)) rfl (cells_lit _ (exp2 n) _ (ec1 (by omega))) (by decide) (by rw [len2a (by omega)]; simp; omega) ?_; intro v6 w6 hh; have H6 : Aside (OG w g0 (l ++ mant (d :: t) ++ [101] ++ [43] ++ exp2 n) v6 w6) := hh; clear hh)
        | fail)
      go_ret
      exact HEND.out _ _ H6.out
    · have n10' : ¬ (n : Int) < 10 := by omega
      by_cases n100 : n < 100
      · have n100' : (n : Int) < 100 := by omega
        go_wp2_with (first
        | (at_builtin; refine wpList_og _ rfl (.tmp 120) (.tmp 122) rfl rfl (H3.out.alloc _) ⟨wc.heap.size, 0, none⟩ 1 1 [101] rfl rfl (cells_lit _ [101] _ rfl) (by decide) (by simp; omega) ?_; intro v4 w4 hh; have H4 : Aside (OG w g0 (l ++ mant (d :: t) ++ [101]) v4 w4) := hh; clear hh)
        | (at_builtin; refine wpList_og _ rfl (.tmp 132) (.tmp 134) rfl rfl (H4.out.alloc _) ⟨w4.heap.size, 0, none⟩ 1 1 [43] rfl rfl (cells_lit _ [43] _ rfl) (by decide) (by simp; omega) ?_; intro v5 w5 hh; have H5 : Aside (OG w g0 (l ++ mant (d :: t) ++ [101] ++ [43]) v5 w5) := hh; clear hh)
        | (at_builtin; refine wpList_og _ rfl (.tmp 164) (.tmp 173) rfl rfl (H5.out.alloc _) ⟨w5.heap.size, 0, none⟩ 2 2 (exp2 n) (len2b (by omega)) rfl (cells_lit _ (exp2 n) _ (ec2 (by omega))) (by decide) (by rw [len2b (by omega)]; simp; omega) ?_; intro v6 w6 hh; have H6 : Aside (OG w g0 (l ++ mant (d :: t) ++ [101] ++ [43] ++ exp2 n) v6 w6) := hh; clear hh)
        | fail)
        go_ret
        exact HEND.out _ _ H6.out
      · have n100' : ¬ (n : Int) < 100 := by omega
        go_wp2_with (first
        | (at_builtin; refine wpList_og _ rfl (.tmp 120) (.tmp 122) rfl rfl (H3.out.alloc _) ⟨wc.heap.size, 0, none⟩ 1 1 [101] rfl rfl (cells_lit _ [101] _ rfl) (by decide) (by simp; omega) ?_; intro v4 w4 hh; have H4 : Aside (OG w g0 (l ++ mant (d :: t) ++ [101]) v4 w4) := hh; clear hh)
        | (at_builtin; refine wpList_og _ rfl (.tmp 132) (.tmp 134) rfl rfl (H4.out.alloc _) ⟨w4.heap.size, 0, none⟩ 1 1 [43] rfl rfl (cells_lit _ [43] _ rfl) (by decide) (by simp; omega) ?_; intro v5 w5 hh; have H5 : Aside (OG w g0 (l ++ mant (d :: t) ++ [101] ++ [43]) v5 w5) := hh; clear hh)
        | (at_builtin; refine wpList_og _ rfl (.tmp 136) (.tmp 150) rfl rfl (H5.out.alloc _) ⟨w5.heap.size, 0, none⟩ 3 3 (exp2 n) (len3 (by omega)) rfl (cells_lit _ (exp2 n) _ (ec3 (by omega))) (by decide) (by rw [len3 (by omega)]; simp; omega) ?_; intro v6 w6 hh; have H6 : Aside (OG w g0 (l ++ mant (d :: t) ++ [101] ++ [43] ++ exp2 n) v6 w6) := hh; clear hh)
        | fail)
        go_ret
        exact HEND.out _ _ H6.out
set_option maxHeartbeats 2000000 in
set_option maxRecDepth 100000 in
theorem fmtE_nf (g0 bB : Nat) (l t : List UInt8) (d : UInt8) (v : Value) (dp : Int) (w : World) (hbB : bB ≠ g0) (hl : l.length ≤ 100) (hD : t.length ≤ 19) (hdp : -900 ≤ dp ∧ dp ≤ 900) (h1 : dp - 1 < -4)
    (hc : ∀ (j : Nat) (c : UInt8), (d :: t)[j]? = some c → w.cell? ⟨bB, j, none⟩ = some (.int .u8 c.toNat)) (ho : OG w g0 l v w) :
    Calls Tryd.prog 27 #[v, .bool false, .slice (some ⟨bB, 0, none⟩) 32 32, .int .i64 dp, .int .i64 ((t.length + 1 : Nat) : Int), .int .i64 ((t.length + 1 : Nat) : Int), .int .u8 103, .bool true] w fun e w' => RetG w g0 (l ++ (sgn false ++ gTxt (d :: t) dp)) e w' := by
  have HC : Aside (∀ (j : Nat) (c : UInt8), (d :: t)[j]? = some c → w.cell? ⟨bB, j, none⟩ = some (.int .u8 c.toNat)) := hc
  have HO : Aside (OG w g0 l v w) := ho
  have h0 := HC.out 0 d rfl
  clear hc ho
  obtain ⟨n, hn⟩ : ∃ n : Nat, dp - 1 = -(n : Int) := ⟨(-(dp - 1)).toNat, by omega⟩
  have hn9 : n ≤ 901 := by omega
  have HEND : Aside (∀ v' w', OG w g0 (l ++ mant (d :: t) ++ [101] ++ [45] ++ exp2 n) v' w' → RetG w g0 (l ++ (sgn false ++ gTxt (d :: t) dp)) (.returned v') w') := fun v' w' hh => ⟨v', rfl, by
    have e : (if (d :: t) = [] then (0 : Int) else dp - 1) = -(n : Int) := by rw [if_neg (by simp)]; exact hn
    rw [gTxt, if_pos (by omega), e, eTxt, if_pos (by omega), Int.natAbs_neg, Int.natAbs_natCast]
    simpa [sgn] using hh⟩
  have hml := mant_len (d :: t)
  simp only [List.length_cons] at hml
  generalize hnl : t.length + 1 = nl at *
  have hnl1 : 1 ≤ nl := by omega
  have hnz : (((nl : Nat) : Int) == 0) = false := beq_eq_false_iff_ne.2 (by omega)
  have hnz2 : (((nl : Nat) : Int) != 0) = true := by rw [bne, hnz]; rfl
  go_enter Tryd.func27, Tryd.ntmps27
  go_upto_if 92 with (first
            | (at_builtin; refine wpList_og _ rfl (.tmp 87) (.tmp 89) rfl rfl (HO.out.alloc _) ⟨w.heap.size, 0, none⟩ 1 1 [d] rfl rfl (cells_lit _ [d] _ rfl) (by decide) (by simp; omega) ?_; intro v2 w2 hh; have H2 : Aside (OG w g0 (l ++ [d]) v2 w2) := hh; clear hh)
            | fail)
  go_cut [0] (fun v wx => OG w g0 (l ++ mant (d :: t)) v wx)
  case first =>
    by_cases hD2 : 2 ≤ nl
    · have hm : mant (d :: t) = [d] ++ [46] ++ t := by
        cases t with
        | nil => simp at hnl; omega
        | cons e t => rfl
      have hpos : (0 : Int) < (nl : Int) - 1 := by omega
      have hmin : min (nl : Int) ((nl : Int) - 1 + 1) = (nl : Int) := by omega
      have hlt1 : (1 : Int) < (nl : Int) := by omega
      go_wp2_with (first
        | (at_builtin; refine wpList_og _ rfl (.tmp 93) (.tmp 94) rfl rfl (H2.out.alloc _) ⟨w2.heap.size, 0, none⟩ 1 1 [46] rfl rfl (cells_lit _ [46] _ rfl) (by decide) (by simp; omega) ?_; intro v3 w3 hh; have H3 : Aside (OG w g0 (l ++ [d] ++ [46]) v3 w3) := hh; clear hh)
        | (at_builtin; refine wpList_og _ rfl (.tmp 103) (.tmp 107) rfl rfl H3.out ⟨bB, 1, none⟩ (nl - 1) 31 t (by omega) rfl (drop_cells (k := 1) HC.out H3.out hbB) (by omega) (by simp; omega) ?_; intro v4 w4 hh; have H4 : Aside (OG w g0 (l ++ mant (d :: t)) v4 w4) := (by rw [Aside, hm]; simpa using hh); clear hh)
        | fail)
      have hz : ¬ (0 : Int) < (nl : Int) - 1 + 1 - (nl : Int) := by omega
      go_loopg [0, 114] 0 (fun _ v ix wr => ix = .int .i64 0 ∧ OG w g0 (l ++ mant (d :: t)) v wr)
      case atStart => exact ⟨rfl, H4.out⟩
      case round =>
        obtain ⟨rfl, hh⟩ := hrel
        have H5 : Aside (OG w g0 (l ++ mant (d :: t)) u0 wr) := hh
        clear hh H4 H3 H2
        go_wp2
        go_meet
        case rel => exact H5.out
    · have hm : mant (d :: t) = [d] := by
        cases t with
        | nil => rfl
        | cons e t => simp at hnl; omega
      have hpos : ¬ (0 : Int) < (nl : Int) - 1 := by omega
      go_wp2
      go_meet
      case rel => exact (by rw [hm]; exact H2.out)
  case rest =>
    have H3 : Aside (OG w g0 (l ++ mant (d :: t)) u0 wc) := hcut
    clear hcut H2
    have hdpn : dp = -(n : Int) + 1 := by omega
    subst hdpn
    clear hn
    by_cases n10 : n < 10
    · have n10' : (n : Int) < 10 := by omega
      go_wp2_with (first
        | (at_builtin; refine wpList_og _ rfl (.tmp 120) (.tmp 122) rfl rfl (H3.out.alloc _) ⟨wc.heap.size, 0, none⟩ 1 1 [101] rfl rfl (cells_lit _ [101] _ rfl) (by decide) (by simp; omega) ?_; intro v4 w4 hh; have H4 : Aside (OG w g0 (l ++ mant (d :: t) ++ [101]) v4 w4) := hh; clear hh)
        | (at_builtin; refine wpList_og _ rfl (.tmp 132) (.tmp 134) rfl rfl (H4.out.alloc _) ⟨w4.heap.size, 0, none⟩ 1 1 [45] rfl rfl (cells_lit _ [45] _ rfl) (by decide) (by simp; omega) ?_; intro v5 w5 hh; have H5 : Aside (OG w g0 (l ++ mant (d :: t) ++ [101] ++ [45]) v5 w5) := hh; clear hh)
        | (at_builtin; refine wpList_og _ rfl (.tmp 155) (.tmp 159) rfl rfl (H5.out.alloc _) ⟨w5.heap.size, 0, none⟩ 2 2 (exp2 n) (len2a (by omega)) rfl (cells_lit _ (exp2 n) _ (ec1 (by omega))) (by decide) (by rw [len2a (by omega)]; simp; omega) ?_; intro v6 w6 hh; have H6 : Aside (OG w g0 (l ++ mant (d :: t) ++ [101] ++ [45] ++ exp2 n) v6 w6) := hh; clear hh)
        | fail)
      go_ret
      exact HEND.out _ _ H6.out
    · have n10' : ¬ (n : Int) < 10 := by omega
      by_cases n100 : n < 100
      · have n100' : (n : Int) < 100 := by omega
        go_wp2_with (first
        | (at_builtin; refine wpList_og _ rfl (.tmp 120) (.tmp 122) rfl rfl (H3.out.alloc _) ⟨wc.heap.size, 0, none⟩ 1 1 [101] rfl rfl (cells_lit _ [101] _ rfl) (by decide) (by simp; omega) ?_; intro v4 w4 hh; have H4 : Aside (OG w g0 (l ++ mant (d :: t) ++ [101]) v4 w4) := hh; clear hh)
        | (at_builtin; refine wpList_og _ rfl (.tmp 132) (.tmp 134) rfl rfl (H4.out.alloc _) ⟨w4.heap.size, 0, none⟩ 1 1 [45] rfl rfl (cells_lit _ [45] _ rfl) (by decide) (by simp; omega) ?_; intro v5 w5 hh; have H5 : Aside (OG w g0 (l ++ mant (d :: t) ++ [101] ++ [45]) v5 w5) := hh; clear hh)
        | (at_builtin; refine wpList_og _ rfl (.tmp 164) (.tmp 173) rfl rfl (H5.out.alloc _) ⟨w5.heap.size, 0, none⟩ 2 2 (exp2 n) (len2b (by omega)) rfl (cells_lit _ (exp2 n) _ (ec2 (by omega))) (by decide) (by rw [len2b (by omega)]; simp; omega) ?_; intro v6 w6 hh; have H6 : Aside (OG w g0 (l ++ mant (d :: t) ++ [101] ++ [45] ++ exp2 n) v6 w6) := hh; clear hh)
        | fail)
        go_ret
        exact HEND.out _ _ H6.out
      · have n100' : ¬ (n : Int) < 100 := by omega
        go_wp2_with (first
        | (at_builtin; refine wpList_og _ rfl (.tmp 120) (.tmp 122) rfl rfl (H3.out.alloc _) ⟨wc.heap.size, 0, none⟩ 1 1 [101] rfl rfl (cells_lit _ [101] _ rfl) (by decide) (by simp; omega) ?_; intro v4 w4 hh; have H4 : Aside (OG w g0 (l ++ mant (d :: t) ++ [101]) v4 w4) := hh; clear hh)
        | (at_builtin; refine wpList_og _ rfl (.tmp 132) (.tmp 134) rfl rfl (H4.out.alloc _) ⟨w4.heap.size, 0, none⟩ 1 1 [45] rfl rfl (cells_lit _ [45] _ rfl) (by decide) (by simp; omega) ?_; intro v5 w5 hh; have H5 : Aside (OG w g0 (l ++ mant (d :: t) ++ [101] ++ [45]) v5 w5) := hh; clear hh)
        | (at_builtin; refine wpList_og _ rfl (.tmp 136) (.tmp 150) rfl rfl (H5.out.alloc _) ⟨w5.heap.size, 0, none⟩ 3 3 (exp2 n) (len3 (by omega)) rfl (cells_lit _ (exp2 n) _ (ec3 (by omega))) (by decide) (by rw [len3 (by omega)]; simp; omega) ?_; intro v6 w6 hh; have H6 : Aside (OG w g0 (l ++ mant (d :: t) ++ [101] ++ [45] ++ exp2 n) v6 w6) := hh; clear hh)
        | fail)
        go_ret
        exact HEND.out _ _ H6.out
end Go.Proofs.Qxb6604548aDoor
