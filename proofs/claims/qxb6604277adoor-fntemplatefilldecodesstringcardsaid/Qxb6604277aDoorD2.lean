import Derived.Test.Qxb6604277aDoorD1
namespace Go.Proofs.Qxb6604277aDoor
open Go.RowKit

theorem at_drop {s : ByteArray} {i m : Nat} {l : List UInt8} {c : UInt8} (h : s.data.toList.drop i = l) (hm : l[m]? = some c) : ∃ hh : i + m < s.size, s[i + m] = c := by
  rw [← h, List.getElem?_drop] at hm
  obtain ⟨h1, h2⟩ := List.getElem?_eq_some_iff.1 hm
  exact ⟨by rw [Lib.size_eq]; exact h1, h2⟩
theorem drop_more {s : ByteArray} {i m : Nat} {a b : List UInt8} (h : s.data.toList.drop i = a ++ b) (hm : a.length = m) : s.data.toList.drop (i + m) = b := by
  rw [← List.drop_drop, h, ← hm, List.drop_left]
theorem ext_of {s v : ByteArray} {i : Nat} {a b : List UInt8} (h : s.data.toList.drop i = a ++ (v.data.toList ++ b)) {m : Nat} (hm : a.length = m) : s.extract (i + m) (i + m + v.size) = v := by
  apply ba_eq
  have h2 := drop_more h hm
  rw [ByteArray.data_extract, Array.toList_extract, List.extract_eq_take_drop, h2, Lib.size_eq, show i + m + v.data.toList.length - (i + m) = v.data.toList.length by omega, List.take_left]

def RetD (w : World) (o : List UInt8) (e : Ending) (w' : World) : Prop := e = .returned (.tuple #[.string ⟨o.toArray⟩, .bool true]) ∧ Below w.heap.size w w'
/-- The state of the decoding loop at i. -/
def DS (L : ByteArray → ByteArray) (s : ByteArray) (o : List UInt8) (w : World) (i : Nat) (v : Value) (wr : World) : Prop := ∃ l r, l ++ r = o ∧ Dec L (s.data.toList.drop i) r ∧ OB w l v wr

set_option maxHeartbeats 1000000 in
set_option maxRecDepth 100000 in
theorem decode_any (s : ByteArray) (mo : Option Nat) (L : ByteArray → ByteArray) (o : List UInt8) (w : World) (hs : s.size ≤ 140737488355328) (ho : o.length ≤ 140737488355328) (hD : Dec L s.data.toList o) (hL : ∀ wx, Below w.heap.size w wx → Looks (.map mo) L wx) :
    Calls Tryd.prog 14 #[.string s, .map mo] w fun e w' => RetD w o e w' := by
  have HL : Aside (∀ wx, Below w.heap.size w wx → Looks (.map mo) L wx) := hL
  clear hL
  go_enter Tryd.func14, Tryd.ntmps14
  go_wp2_with fail
  go_loopg [6, 7] s.size (fun kk v ix wr => ∃ i : Nat, kk = s.size - i ∧ i ≤ s.size ∧ ix = .int .i64 i ∧ DS L s o w i v wr)
  case atStart => exact ⟨0, rfl, Nat.zero_le _, rfl, [], o, rfl, by simpa using hD, ob_start w⟩
  case round =>
    obtain ⟨i, rfl, hi, rfl, l, r, hlr, hdec, hob⟩ := hrel
    clear hD
    have HOB : Aside (OB w l u6 wr) := hob
    have HLR : Aside (l ++ r = o) := hlr
    have hll : l.length + r.length = o.length := by rw [← hlr, List.length_append]
    clear hob hlr
    by_cases hlt : i < s.size
    · generalize hrest : s.data.toList.drop i = rest at hdec
      have HR : Aside (s.data.toList.drop i = rest) := hrest
      cases hdec with
      | nil =>
        have := congrArg List.length hrest
        simp at this; omega
      | one c t o' hc hd =>
        obtain ⟨_, hc0⟩ := at_drop (m := 0) hrest (c := c) rfl
        have hc1 : s[i] = c := hc0
        have hnx : s.data.toList.drop (i + 1) = t := drop_more (a := [c]) hrest rfl
        have hdc : dolAt s i = true → dolAt s (i + 1) = false := fun h => by
          rw [dolAt_in hlt, dol_eq, hc1] at h
          have h36 : c = 36 := by simpa using h
          have := hc h36
          by_cases h2 : i + 1 < s.size
          · rw [← hnx, drop_at s (i + 1) h2] at this
            rw [dolAt_in h2, dol_eq]
            simpa using this
          · exact dolAt_out h2
        have HDC : Aside (dolAt s i = true → dolAt s (i + 1) = false) := hdc
        have HX : Aside (∀ v' w', OB w (l ++ [s[i]]) v' w' → DS L s o w (i + 1) v' w') := fun v' w' h => ⟨_, o', by rw [← HLR.out, hc1]; simp, by rw [hnx]; exact hd, h⟩
        simp only [List.length_cons] at hll
        clear hrest HR hc0 hc1 hnx hdc hc hd
        cases hd1 : ((s[i].toNat : Int) == 36) with
        | false =>
          have hd1' : ((s[i].toNat : Int) != 36) = true := by simp [bne, hd1]
          go_wp2_with (at_builtin; refine wpList_ob _ rfl (.tmp 31) (.tmp 35) rfl rfl (HOB.out.alloc _) ⟨wr.heap.size, 0, none⟩ 1 1 [s[i]] rfl rfl (cells_one _ s[i]) (by simp; omega) ?_; intro v1 w1 ho1; have HO1 : Aside (DS L s o w (i + 1) v1 w1) := HX.out _ _ ho1; clear ho1)
          go_roundg (s.size - (i + 1))
          case measure => omega
          case rel => exact ⟨i + 1, rfl, by omega, by go_num, HO1.out⟩
        | true =>
          have hd1' : ((s[i].toNat : Int) != 36) = false := by simp [bne, hd1]
          have hdn := HDC.out (by rw [dolAt_in hlt]; exact hd1)
          clear HDC
          by_cases h2 : i + 1 < s.size
          · rw [dolAt_in h2] at hdn
            have hd2' : ((s[i + 1].toNat : Int) != 36) = true := by simp [bne, hdn]
            have h2' : ¬ (s.size : Int) ≤ (i : Int) + 1 := by omega
            go_wp2_with (at_builtin; refine wpList_ob _ rfl (.tmp 31) (.tmp 35) rfl rfl (HOB.out.alloc _) ⟨wr.heap.size, 0, none⟩ 1 1 [s[i]] rfl rfl (cells_one _ s[i]) (by simp; omega) ?_; intro v1 w1 ho1; have HO1 : Aside (DS L s o w (i + 1) v1 w1) := HX.out _ _ ho1; clear ho1)
            go_roundg (s.size - (i + 1))
            case measure => omega
            case rel => exact ⟨i + 1, rfl, by omega, by go_num, HO1.out⟩
          · have h2' : (s.size : Int) ≤ (i : Int) + 1 := by omega
            clear hdn
            go_wp2_with (at_builtin; refine wpList_ob _ rfl (.tmp 31) (.tmp 35) rfl rfl (HOB.out.alloc _) ⟨wr.heap.size, 0, none⟩ 1 1 [s[i]] rfl rfl (cells_one _ s[i]) (by simp; omega) ?_; intro v1 w1 ho1; have HO1 : Aside (DS L s o w (i + 1) v1 w1) := HX.out _ _ ho1; clear ho1)
            go_roundg (s.size - (i + 1))
            case measure => omega
            case rel => exact ⟨i + 1, rfl, by omega, by go_num, HO1.out⟩
      | two t o' hd =>
        obtain ⟨_, e0⟩ := at_drop (m := 0) hrest (c := 36) rfl
        obtain ⟨z1, e1⟩ := at_drop (m := 1) hrest (c := 36) rfl
        obtain ⟨z2, e2⟩ := at_drop (m := 2) hrest (c := 36) rfl
        obtain ⟨z3, e3⟩ := at_drop (m := 3) hrest (c := 36) rfl
        have f0 : ((s[i].toNat : Int) != 36) = false := by rw [show s[i] = 36 from e0]; rfl
        have f1 : ((s[i + 1].toNat : Int) != 36) = false := by rw [e1]; rfl
        have f2 : ((s[i + 2].toNat : Int) == 36) = true := by rw [e2]; rfl
        have f3 : ((s[i + 3].toNat : Int) == 36) = true := by rw [e3]; rfl
        have g1 : ¬ (s.size : Int) ≤ (i : Int) + 1 := by omega
        have g3 : (i : Int) + 3 < (s.size : Int) := by omega
        have hnx : s.data.toList.drop (i + 4) = t := drop_more (a := [36, 36, 36, 36]) hrest rfl
        have HX : Aside (∀ v' w', OB w (l ++ [36, 36]) v' w' → DS L s o w (i + 4) v' w') := fun v' w' h => ⟨_, o', by rw [← HLR.out]; simp, by rw [hnx]; exact hd, h⟩
        simp only [List.length_cons] at hll
        clear hrest HR e0 e1 e2 e3 hnx hd
        go_wp2_with (at_builtin; refine wpList_ob _ rfl (.tmp 58) (.tmp 59) rfl rfl (HOB.out.alloc _) ⟨wr.heap.size, 0, none⟩ 2 2 [36, 36] rfl rfl (cells_two _ 36 36) (by simp; omega) ?_; intro v1 w1 ho1; have HO1 : Aside (DS L s o w (i + 4) v1 w1) := HX.out _ _ ho1; clear ho1)
        go_roundg (s.size - (i + 4))
        case measure => omega
        case rel => exact ⟨i + 4, rfl, by omega, by go_num, HO1.out⟩
      | name v t o' hne hnm hd =>
        have hvl : v.data.toList ≠ [] := fun h => by rw [empty_eq, h] at hne; cases hne
        have hvs : 0 < v.size := by rw [Lib.size_eq]; exact List.length_pos_iff.2 hvl
        have hlenr := congrArg List.length hrest
        simp only [List.length_drop, List.length_cons, List.length_append, ← Lib.size_eq] at hlenr
        obtain ⟨_, e0⟩ := at_drop (m := 0) hrest (c := 36) rfl
        obtain ⟨z1, e1⟩ := at_drop (m := 1) hrest (c := 36) rfl
        have hin : ∀ q, q < v.size → ∃ hh : i + 2 + q < s.size, s[i + 2 + q] ≠ 36 := fun q hq => by
          have hq' : q < v.data.toList.length := by rw [← Lib.size_eq]; exact hq
          obtain ⟨hh, he⟩ := at_drop (m := 2 + q) hrest (c := v.data.toList[q]) (by rw [show 2 + q = q + 1 + 1 by omega, List.getElem?_cons_succ, List.getElem?_cons_succ, List.getElem?_append_left hq']; exact List.getElem?_eq_getElem hq')
          refine ⟨by omega, ?_⟩
          have he2 : s[i + 2 + q]'(by omega) = v.data.toList[q] := by rw [← he]; congr 1; omega
          rw [he2]
          exact nm_nodol hnm _ (List.getElem_mem hq')
        have hend : ∀ q, q < 2 → ∃ hh : i + 2 + v.size + q < s.size, s[i + 2 + v.size + q] = 36 := fun q hq => by
          have h2 := drop_more (a := 36 :: 36 :: v.data.toList) (b := 36 :: 36 :: t) (m := 2 + v.size) (by rw [hrest]; simp) (by rw [Lib.size_eq]; simp; omega)
          obtain ⟨hh, he⟩ := at_drop (m := q) h2 (c := 36) (by rcases q with _ | _ | q <;> first | rfl | omega)
          have e : i + (2 + v.size) + q = i + 2 + v.size + q := by omega
          exact ⟨by omega, by rw [← he]; congr 1; omega⟩
        have hext := ext_of (a := [36, 36]) (b := 36 :: 36 :: t) hrest (m := 2) rfl
        have hnx : s.data.toList.drop (i + 2 + v.size + 2) = t := by
          have := drop_more (a := 36 :: 36 :: v.data.toList ++ [36, 36]) (b := t) (m := 2 + v.size + 2) (by rw [hrest]; simp) (by rw [Lib.size_eq]; simp; omega)
          rw [← this]; congr 1; omega
        have HX : Aside (∀ v' w', OB w (l ++ (L v).data.toList) v' w' → DS L s o w (i + 2 + v.size + 2) v' w') := fun v' w' h => ⟨_, o', by rw [← HLR.out]; simp, by rw [hnx]; exact hd, h⟩
        have HIN : Aside (∀ q, q < v.size → ∃ hh : i + 2 + q < s.size, s[i + 2 + q] ≠ 36) := hin
        have HEND : Aside (∀ q, q < 2 → ∃ hh : i + 2 + v.size + q < s.size, s[i + 2 + v.size + q] = 36) := hend
        have HNM : Aside (IsNm v) := hnm
        have f0 : ((s[i].toNat : Int) != 36) = false := by rw [show s[i] = 36 from e0]; rfl
        have f1 : ((s[i + 1].toNat : Int) != 36) = false := by rw [e1]; rfl
        have z2 : i + 2 < s.size := by omega
        have f2 : ((s[i + 2].toNat : Int) == 36) = false := by
          obtain ⟨_, h⟩ := hin 0 hvs
          rw [dol_eq]; simpa using h
        have g1 : ¬ (s.size : Int) ≤ (i : Int) + 1 := by omega
        have g3 : (i : Int) + 3 < (s.size : Int) := by omega
        simp only [List.length_append, ← Lib.size_eq] at hll
        clear hrest HR e0 e1 hnx hd hin hend hne hvl hnm
        have HEXT : Aside (s.extract (i + 2) (i + 2 + v.size) = v) := hext
        clear hext
        go_wp2_with fail
        go_loopg [8] v.size (fun kk ix wx => wx = wr ∧ ∃ q : Nat, kk = v.size - q ∧ q ≤ v.size ∧ ix = .int .i64 (i + 2 + q : Nat))
        case atStart => exact ⟨rfl, 0, rfl, Nat.zero_le _, by go_num⟩
        case round =>
          obtain ⟨hwx, q, rfl, hq, rfl⟩ := hrel
          subst hwx
          by_cases hql : q < v.size
          · obtain ⟨z5, e5⟩ := HIN.out q hql
            have f5 : ((s[i + 2 + q].toNat : Int) != 36) = true := by
              have : ((s[i + 2 + q].toNat : Int) == 36) = false := by rw [dol_eq]; simpa using e5
              simp [bne, this]
            generalize hj : i + 2 + q = j at *
            have HJ : Aside (i + 2 + q = j) := hj
            go_wp2
            go_roundg (v.size - (q + 1))
            case measure => omega
            case rel => exact ⟨rfl, q + 1, rfl, by omega, by have := HJ.out; go_num⟩
          · obtain rfl : q = v.size := by omega
            obtain ⟨z5, e5⟩ := HEND.out 0 (by omega)
            obtain ⟨z6, e6⟩ := HEND.out 1 (by omega)
            have f5 : ((s[i + 2 + v.size].toNat : Int) != 36) = false := by rw [show s[i + 2 + v.size] = 36 from e5]; rfl
            have f6 : ((s[i + 2 + v.size + 1].toNat : Int) != 36) = false := by rw [e6]; rfl
            have hext := HEXT.out
            have hlk := (HL.out wr HOB.out.2 v (by unfold maxLen; omega)).1
            clear HEND HIN e5 e6 HEXT
            have g5 : (((i + 2 + v.size : Nat) : Int) == (i : Int) + 2) = false := beq_eq_false_iff_ne.2 (by omega)
            have g6 : ¬ (s.size : Int) ≤ ((i + 2 + v.size : Nat) : Int) + 1 := by omega
            have z7 : i + 2 ≤ i + 2 + v.size := by omega
            have hvm : v.size ≤ 140737488355328 := by omega
            generalize hj : i + 2 + v.size = j at *
            have HJ : Aside (i + 2 + v.size = j) := hj
            clear hj
            go_wp2_with fail
            refine (isName_any v wr (by unfold maxLen; omega)).mono ?_
            rintro e w' ⟨b, rfl, hb, hw⟩
            obtain rfl := hw.symm
            obtain rfl : b = true := hb.2 HNM.out
            clear hb hw
            generalize hlv : L v = lv at *
            go_wp2_with (at_builtin; refine wpList_obs _ rfl (.tmp 104) (.tmp 111) rfl rfl HOB.out lv rfl (by omega) ?_; intro v1 w1 ho1; have HO1 : Aside (DS L s o w (j + 2) v1 w1) := HX.out _ _ ho1; clear ho1)
            have hjj := HJ.out
            go_roundg (s.size - (j + 2))
            case measure => omega
            case rel => exact ⟨j + 2, rfl, by omega, by go_num, HO1.out⟩
    · obtain rfl : i = s.size := by omega
      rw [List.drop_of_length_le (by rw [← Lib.size_eq]; exact Nat.le_refl _)] at hdec
      have HR0 : Aside (l = o) := by cases hdec; rw [Aside, ← HLR.out]; simp
      have hcv := run_conv_ob HOB.out
      rw [HR0.out] at hcv
      clear hdec
      go_wp2
      go_ret2
      exact ⟨rfl, HOB.out.2⟩
end Go.Proofs.Qxb6604277aDoor
