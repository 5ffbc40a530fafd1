import Derived.Test.Qxb6604277aDoorA4
import Derived.Lib.AppendStr
namespace Go.Proofs.Qxb6604277aDoor
open Go.RowKit

theorem Tryd.info5 : (Tryd.prog.info? 5).map (fun i => (i.zero, i.size, i.bytes)) = some (some (.int .u8 0), 1, 1) := by kernel_rfl

/-- THE BYTES GATHERED SO FAR: the slice v owns a row of the call's own that holds l; nothing old has turned. -/
def OB (w : World) (l : List UInt8) (v : Value) (wr : World) : Prop := wr.ownsRow w.heap.size 5 1 v l.length (Lib.byteCells l) ∧ Below w.heap.size w wr
theorem ob_start (w : World) : OB w [] (.slice none 0 0) w := ⟨World.ownsRow_nil _ _ _ _, Below.refl _ _⟩
theorem OB.alloc {w wr : World} {l : List UInt8} {v : Value} (h : OB w l v wr) (o : Obj) : OB w l v (wr.alloc o) := ⟨h.1.alloc o, h.2.alloc h.2.size o⟩

theorem wpList_ob {w : World} (wx : World) {ops : Array Oper} {rest : List Oper} {o : Oper} {a : Act} {Q : Exit → Act → World → Prop} (hgd : o.guard = none) (s x : Operand)
    (hop : o.op = .call { callee := .builtin .append, args := #[s, x], argTypes := #[30, 30] }) {l : List UInt8} {v : Value} (hs : a.eval s = v) (h : OB w l v wx)
    (ad : Addr) (m c : Nat) (news : List UInt8) (hm : news.length = m) (hx : a.eval x = .slice (some ad) m c) (hnews : ∀ j u, (Lib.byteCells news)[j]? = some u → wx.cell? (ad.add j) = some u) (hlen : l.length + news.length ≤ 140737488355328)
    (hK : ∀ v' w', OB w (l ++ news) v' w' → wpList Tryd.prog ops Q rest (a.put o.dst v') w') : wpList Tryd.prog ops Q (o :: rest) a wx := by
  obtain ⟨i, hi, hz0, hz1, hz2⟩ := info_parts Tryd.info5
  subst hm
  refine wpList_append_own wx hgd s x 30 hop w.heap.size 5 i (.int .u8 0) 1 1 Tryd.underlying30 hi hz0 hz1 hz2 rfl (by decide) v l.length (Lib.byteCells l) hs h.1 ad news.length c (Lib.byteCells news) hx (by rw [Lib.byteCells_length]; simp) hnews
    (fun u hu => by simp only [Lib.byteCells, List.mem_map] at hu; obtain ⟨b, _, rfl⟩ := hu; rfl) (by unfold maxLen; omega) (by omega) h.2.size ?_
  intro v' w' h1 h2 _
  exact hK v' w' ⟨by rw [List.length_append, Lib.byteCells_append]; exact h1, h.2.grown h2 h.2.size (fun k hk => (h.1.lt k hk).1)⟩

theorem wpList_obs {w : World} (wx : World) {ops : Array Oper} {rest : List Oper} {o : Oper} {a : Act} {Q : Exit → Act → World → Prop} (hgd : o.guard = none) (s x : Operand)
    (hop : o.op = .call { callee := .builtin .append, args := #[s, x], argTypes := #[30, 9] }) {l : List UInt8} {v : Value} (hs : a.eval s = v) (h : OB w l v wx)
    (t : ByteArray) (hx : a.eval x = .string t) (hlen : l.length + t.size ≤ 140737488355328)
    (hK : ∀ v' w', OB w (l ++ t.data.toList) v' w' → wpList Tryd.prog ops Q rest (a.put o.dst v') w') : wpList Tryd.prog ops Q (o :: rest) a wx := by
  obtain ⟨i, hi, hz0, hz1, hz2⟩ := info_parts Tryd.info5
  refine Lib.wpList_append_own_string (P := Tryd.prog) wx hgd s x 30 9 hop w.heap.size 5 i Tryd.underlying30 Tryd.underlying9 hi hz0 hz1 hz2 v l.length (Lib.byteCells l) hs h.1 t hx (by unfold maxLen; omega) (by omega) h.2.size ?_
  intro v' w' h1 h2 _
  exact hK v' w' ⟨by rw [List.length_append, Lib.byteCells_append, ← Lib.size_eq, ← Lib.strCells_eq]; exact h1, h.2.grown h2 h.2.size (fun k hk => (h.1.lt k hk).1)⟩

theorem cells_two (w : World) (a b : UInt8) : ∀ j u, (Lib.byteCells [a, b])[j]? = some u → (w.alloc (.cells #[.int .u8 a.toNat, .int .u8 b.toNat] 5)).cell? ((⟨w.heap.size, 0, none⟩ : Addr).add j) = some u := cell_two_new w _ _ _
theorem cells_one (w : World) (a : UInt8) : ∀ j u, (Lib.byteCells [a])[j]? = some u → (w.alloc (.cells #[.int .u8 a.toNat] 5)).cell? ((⟨w.heap.size, 0, none⟩ : Addr).add j) = some u := cell_one_new w _ _

def dolAt (x : ByteArray) (i : Nat) : Bool := if h : i < x.size then ((x[i].toNat : Int) == 36) else false
theorem dolAt_in {x : ByteArray} {k : Nat} (h : k < x.size) : dolAt x k = ((x[k].toNat : Int) == 36) := dif_pos h
theorem dolAt_out {x : ByteArray} {k : Nat} (h : ¬ k < x.size) : dolAt x k = false := dif_neg h
theorem dol_eq {c : UInt8} : ((c.toNat : Int) == 36) = (c == 36) := by
  rw [Bool.eq_iff_iff, beq_iff_eq, beq_iff_eq]
  constructor
  · intro h; exact UInt8.toNat_inj.1 (by simpa using (by omega : c.toNat = 36))
  · rintro rfl; rfl
theorem drop_at (s : ByteArray) (k : Nat) (h : k < s.size) : s.data.toList.drop k = s[k] :: s.data.toList.drop (k + 1) :=
  List.drop_eq_getElem_cons (l := s.data.toList) (i := k) (by simpa using h)
theorem dol_snoc {x : ByteArray} {j e : Nat} (h : ∀ i, j ≤ i → i < e → dolAt x i = true) (he : dolAt x e = true) : ∀ i, j ≤ i → i < e + 1 → dolAt x i = true := fun k h1 h2 => by
  by_cases hk : k = e
  · rw [hk]; exact he
  · exact h k h1 (by omega)
theorem esc_step {x : ByteArray} {j : Nat} {l R : List UInt8} (hj : j < x.size) (hd : ((x[j].toNat : Int) == 36) = false) (h : l ++ esc (x.data.toList.drop j) = R) : (l ++ [x[j]]) ++ esc (x.data.toList.drop (j + 1)) = R := by
  rw [drop_at x j hj, esc_other _ (by rw [dol_eq] at hd; simpa using hd)] at h
  simpa using h
theorem drop_run (x : ByteArray) : ∀ (d j e : Nat), e - j = d → j ≤ e → e ≤ x.size → (∀ i, j ≤ i → i < e → dolAt x i = true) → x.data.toList.drop j = List.replicate (e - j) 36 ++ x.data.toList.drop e
  | 0, j, e, hd, h1, _, _ => by rw [hd, show j = e by omega]; rfl
  | d + 1, j, e, hd, h1, h2, h3 => by
    have hj : j < x.size := by omega
    have h36 : x[j] = 36 := by
      have := h3 j (Nat.le_refl _) (by omega)
      rw [dolAt_in hj, dol_eq] at this; simpa using this
    rw [drop_at x j hj, h36, drop_run x d (j + 1) e (by omega) (by omega) h2 (fun i a b => h3 i (by omega) b), show e - j = (e - (j + 1)) + 1 by omega, List.replicate_succ]; rfl
theorem esc_dollars {x : ByteArray} {j e : Nat} (h1 : j ≤ e) (h2 : e ≤ x.size) (h3 : ∀ i, j ≤ i → i < e → dolAt x i = true) (h4 : dolAt x e = false) :
    esc (x.data.toList.drop j) = List.replicate (2 * (e - j) - (e - j) % 2) 36 ++ esc (x.data.toList.drop e) := by
  rw [drop_run x (e - j) j e rfl h1 h2 h3]
  refine esc_run _ _ (fun b hb => ?_)
  by_cases he : e < x.size
  · rw [drop_at x e he] at hb
    rw [dolAt_in he, dol_eq] at h4
    simp at hb; subst hb; simpa using h4
  · rw [List.drop_of_length_le (by rw [← Lib.size_eq]; omega)] at hb
    simp at hb

def RetOB (w : World) (l : List UInt8) (e : Ending) (w' : World) : Prop := ∃ v, e = .returned v ∧ OB w l v w'

set_option maxHeartbeats 1000000 in
set_option maxRecDepth 100000 in
theorem model_any (a1 a2 : Option Addr) (n c1 c2 : Nat) (X V : Nat → ByteArray) (w : World) (hn : n ≤ 65536) (hX : ∀ k, k < n → (X k).size ≤ 1048576 ∧ (V k).size ≤ 1048576) (h1 : Rd w a1 n X) (h2 : Rd w a2 n V) :
    Calls Tryd.prog 10 #[.slice a1 n c1, .slice a2 n c2] w fun e w' => RetOB w (so X V n) e w' := by
  have HX : Aside (∀ k, k < n → (X k).size ≤ 1048576 ∧ (V k).size ≤ 1048576) := hX
  clear hX
  go_enter Tryd.func10, Tryd.ntmps10
  go_wp2_with fail
  go_loopg [5, 6] n (fun kk v ix wr => ∃ k : Nat, kk = n - k ∧ k ≤ n ∧ ix = .int .i64 k ∧ OB w (so X V k) v wr)
  case atStart => exact ⟨0, rfl, Nat.zero_le _, rfl, ob_start w⟩
  case round =>
    obtain ⟨k, rfl, hk, rfl, hO⟩ := hrel
    have HO : Aside (OB w (so X V k) u5 wr) := hO
    have hlen := so_len X V 1048576 k (fun j hj => HX.out j (by omega))
    by_cases hlt : k < n
    · obtain ⟨b1, o1, rfl, hc1⟩ := h1 k hlt
      obtain ⟨b2, o2, rfl, hc2⟩ := h2 k hlt
      have g1 := cell_later hO.2 hc1
      have g2 := cell_later hO.2 hc2
      have hXk := HX.out k hlt
      have hlt3 : (k : Int) < (n : Int) := by omega
      generalize hx : X k = x at *
      generalize hv : V k = v at *
      have HE : Aside (X k = x ∧ V k = v) := ⟨hx, hv⟩
      have HC2 : Aside (w.cell? ⟨b2, o2 + k, none⟩ = some (.string v)) := hc2
      clear hx hv hO hc1 hc2
      cases hvE : v.toList.isEmpty with
      | false =>
        go_wp2_with (first
          | (at_builtin; refine wpList_ob _ rfl (.tmp 24) (.tmp 25) rfl rfl (HO.out.alloc _) ⟨wr.heap.size, 0, none⟩ 2 2 [36, 36] rfl rfl (cells_two _ 36 36) (by simp; omega) ?_; intro v1 w1 ho1; have HO1 : Aside (OB w (so X V k ++ [36, 36]) v1 w1) := ho1; have q2 := cell_later ho1.2 HC2.out; clear ho1)
          | (at_builtin; refine wpList_obs _ rfl (.tmp 27) (.tmp 31) rfl rfl HO1.out v rfl (by simp; omega) ?_; intro v2 w2 ho2; have HO2 : Aside (OB w (so X V k ++ [36, 36] ++ v.data.toList) v2 w2) := ho2; clear ho2)
          | (at_builtin; refine wpList_ob _ rfl (.tmp 33) (.tmp 34) rfl rfl (HO2.out.alloc _) ⟨w2.heap.size, 0, none⟩ 2 2 [36, 36] rfl rfl (cells_two _ 36 36) (by simp; omega) ?_; intro v3 w3 ho3; have HO3 : Aside (OB w (so X V k ++ [36, 36] ++ v.data.toList ++ [36, 36]) v3 w3) := ho3; clear ho3))
        have HS : Aside (OB w (so X V (k + 1)) v3 w3) := by
          have e2 : so X V (k + 1) = so X V k ++ [36, 36] ++ v.data.toList ++ [36, 36] := by
            rw [so, HE.out.1, HE.out.2, pOut, if_neg (by rw [← empty_eq, hvE]; simp)]; simp
          rw [Aside, e2]; exact HO3.out
        go_roundg (n - (k + 1))
        case measure => omega
        case rel => exact ⟨k + 1, rfl, by omega, by go_num, HS.out⟩
      | true =>
        have hexl := esc_len x.data.toList
        rw [← Lib.size_eq] at hexl
        go_wp2_with fail
        go_loopg [5, 8] x.size (fun kk vv ix wi => ∃ (j : Nat) (l : List UInt8), kk = x.size - j ∧ j ≤ x.size ∧ ix = .int .i64 j ∧ l ++ esc (x.data.toList.drop j) = so X V k ++ esc x.data.toList ∧ OB w l vv wi)
        case atStart => exact ⟨0, so X V k, rfl, Nat.zero_le _, rfl, rfl, HO.out⟩
        case round =>
          obtain ⟨j, l, rfl, hj, rfl, hl, hO⟩ := hrel
          have hll : l.length ≤ (so X V k).length + (esc x.data.toList).length := by
            have := congrArg List.length hl
            simp at this; omega
          have HL : Aside (l ++ esc (x.data.toList.drop j) = so X V k ++ esc x.data.toList) := hl
          have HO2 : Aside (OB w l u5 wr) := hO
          clear hO hl HO g1 g2
          by_cases hjl : j < x.size
          · cases hd : ((x[j].toNat : Int) == 36) with
            | false =>
              go_wp2_with (at_builtin; refine wpList_ob _ rfl (.tmp 48) (.tmp 52) rfl rfl (HO2.out.alloc _) ⟨wr.heap.size, 0, none⟩ 1 1 [x[j]] rfl rfl (cells_one _ x[j]) (by simp; omega) ?_; intro v1 w1 ho1; have HO1 : Aside (OB w (l ++ [x[j]]) v1 w1) := ho1; clear ho1)
              go_roundg (x.size - (j + 1))
              case measure => omega
              case rel => exact ⟨j + 1, l ++ [x[j]], rfl, by omega, by go_num, esc_step hjl hd HL.out, HO1.out⟩
            | true =>
              have hd2 : ((x[j].toNat : Int) != 36) = false := by simp [bne, hd]
              go_upto_block 4 with fail
              go_cut [9] (fun t wx => wx = wr ∧ ∃ e : Nat, t = .int .i64 e ∧ j < e ∧ e ≤ x.size ∧ (∀ i, j ≤ i → i < e → dolAt x i = true) ∧ dolAt x e = false)
              case first =>
                go_wp2_with fail
                go_loopg [9] (x.size - j) (fun kk t wx => wx = wr ∧ ∃ e : Nat, kk = x.size - e ∧ t = .int .i64 e ∧ j ≤ e ∧ e ≤ x.size ∧ (∀ i, j ≤ i → i < e → dolAt x i = true))
                case atStart => exact ⟨rfl, j, rfl, rfl, Nat.le_refl _, by omega, fun i h1 h2 => absurd h1 (by omega)⟩
                case round =>
                  obtain ⟨hwx, e, rfl, rfl, he1, he2, he3⟩ := hrel
                  subst hwx
                  have HE3 : Aside (∀ i, j ≤ i → i < e → dolAt x i = true) := he3
                  clear he3
                  have hje : dolAt x e = false → j < e := fun h => by
                    by_cases e0 : j = e
                    · subst e0; rw [dolAt_in hjl, hd] at h; cases h
                    · omega
                  have HJE : Aside (dolAt x e = false → j < e) := hje
                  clear hje
                  by_cases hel : e < x.size
                  · cases hd3 : ((x[e].toNat : Int) == 36) with
                    | true =>
                      go_wp2
                      go_roundg (x.size - (e + 1))
                      case measure => omega
                      case rel => exact ⟨rfl, e + 1, rfl, by go_num, by omega, by omega, dol_snoc HE3.out (by rw [dolAt_in hel]; exact hd3)⟩
                    | false =>
                      have hF : dolAt x e = false := by rw [dolAt_in hel]; exact hd3
                      have HF : Aside (dolAt x e = false) := hF
                      clear hF
                      go_wp2
                      go_meet
                      case rel => exact ⟨rfl, e, rfl, HJE.out HF.out, he2, HE3.out, HF.out⟩
                  · go_wp2
                    go_meet
                    case rel => exact ⟨rfl, e, rfl, HJE.out (dolAt_out hel), he2, HE3.out, dolAt_out hel⟩
              case rest =>
                obtain ⟨hwx, e, rfl, he1, he2, he3, he4⟩ := hcut
                subst hwx
                have HES := esc_dollars (by omega) he2 he3 he4
                have HE5 : Aside (esc (x.data.toList.drop j) = List.replicate (2 * (e - j) - (e - j) % 2) 36 ++ esc (x.data.toList.drop e)) := HES
                clear HES he3 he4 hd hd2
                go_upto_block 6 with fail
                generalize hwv : (2 * ((e : Int) - (j : Int)) - ((e : Int) - (j : Int)) % 2) = W
                obtain ⟨wv, rfl⟩ : ∃ wv : Nat, W = (wv : Int) := ⟨W.toNat, by omega⟩
                have HW : Aside (2 * (e - j) - (e - j) % 2 = wv) := by rw [Aside]; omega
                have hwl : wv ≤ 2097152 := by omega
                clear hwv
                go_wp2_with fail
                go_loopg [5, 12] wv (fun kk vv ix wi => ∃ d : Nat, kk = wv - d ∧ d ≤ wv ∧ ix = .int .i64 d ∧ OB w (l ++ List.replicate d 36) vv wi)
                case atStart => exact ⟨0, rfl, Nat.zero_le _, rfl, by simpa using HO2.out⟩
                case round =>
                  obtain ⟨d, rfl, hd, rfl, hO⟩ := hrel
                  have HO3 : Aside (OB w (l ++ List.replicate d 36) u5 wr) := hO
                  clear hO HO2
                  by_cases hdl : d < wv
                  · go_wp2_with (at_builtin; refine wpList_ob _ rfl (.tmp 82) (.tmp 83) rfl rfl (HO3.out.alloc _) ⟨wr.heap.size, 0, none⟩ 1 1 [36] rfl rfl (cells_one _ 36) (by simp; omega) ?_; intro v1 w1 ho1; have HO4 : Aside (OB w (l ++ List.replicate (d + 1) 36) v1 w1) := (by rw [Aside, List.replicate_succ', ← List.append_assoc]; exact ho1); clear ho1)
                    go_roundg (wv - (d + 1))
                    case measure => omega
                    case rel => exact ⟨d + 1, rfl, by omega, by go_num, HO4.out⟩
                  · obtain rfl : d = wv := by omega
                    have HL2 : Aside (l ++ List.replicate d 36 ++ esc (x.data.toList.drop e) = so X V k ++ esc x.data.toList) := by
                      have := HL.out
                      rw [HE5.out, HW.out, ← List.append_assoc] at this
                      exact this
                    go_wp2
                    go_roundg (x.size - e)
                    case measure => omega
                    case rel => exact ⟨e, l ++ List.replicate d 36, rfl, he2, rfl, HL2.out, HO3.out⟩
          · obtain rfl : j = x.size := by omega
            have HS : Aside (OB w (so X V (k + 1)) u5 wr) := by
              have e2 : so X V (k + 1) = l := by
                have := HL.out
                rw [List.drop_of_length_le (by rw [← Lib.size_eq]; exact Nat.le_refl _)] at this
                rw [so, HE.out.1, HE.out.2, pOut, if_pos (by rw [← empty_eq, hvE]), ← this]; simp [esc]
              rw [Aside, e2]; exact HO2.out
            go_wp2
            go_roundg (n - (k + 1))
            case measure => omega
            case rel => exact ⟨k + 1, rfl, by omega, by go_num, HS.out⟩
    · obtain rfl : k = n := by omega
      clear hO
      go_wp2
      go_ret
      exact ⟨_, rfl, HO.out⟩
end Go.Proofs.Qxb6604277aDoor
