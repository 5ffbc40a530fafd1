import Derived.Test.Qxb6604548aDoorGf
import Derived.Test.Qxb6604548aDoorGd
namespace Go.Proofs.Qxb6604548aDoor
open Go.RowKit

/-- how the sign is told: below zero, or a zero whose inverse is. -/
def Signs (b : Nat) (sg : Bool) : Prop :=
  ((FloatKind.f64.format.order b 0 == some .lt) = sg ∧ (FloatKind.f64.format.order b 0 == some .eq) = false) ∨
  ∃ r, (FloatKind.f64.format.order b 0 == some .lt) = false ∧ (FloatKind.f64.format.order b 0 == some .eq) = true ∧ floatBits .quo .f64 4607182418800017408 b = some r ∧ (FloatKind.f64.format.order r 0 == some .lt) = sg
theorem tyF : Tryd.prog.underlying 22 = some (.float .f64) := by kernel_rfl
theorem tyI : Tryd.prog.underlying 2 = some (.int .i64) := by kernel_rfl
theorem ext_list (t : ByteArray) (i j : Nat) : (t.extract i j).data.toList = (t.data.toList.take j).drop i := by
  rw [ByteArray.data_extract, Array.toList_extract]
  simp [List.extract, List.drop_take]
theorem last_split {t : ByteArray} (h : 1 ≤ t.size) : t.data.toList = (t.extract 0 (t.size - 1)).data.toList ++ [t[t.size - 1]] := by
  rw [ext_list, List.drop_zero]
  have hl : t.size - 1 < t.data.toList.length := by rw [← Lib.size_eq]; omega
  have h2 : t[t.size - 1] = t.data.toList[t.size - 1] := rfl
  rw [h2, List.take_append_getElem hl]
  rw [List.take_of_length_le (by rw [← Lib.size_eq]; omega)]
theorem mant1 {t : ByteArray} (h : t.size = 1) : mant t.data.toList = (t.extract 0 1).data.toList := by
  rw [ext_list, List.drop_zero]
  rw [Lib.size_eq] at h
  match hl : t.data.toList, h with
  | [c], _ => rfl
theorem mant2 {t : ByteArray} (h : 1 < t.size) : mant t.data.toList = (t.extract 0 1).data.toList ++ 46 :: (t.extract 1 t.size).data.toList := by
  rw [ext_list, ext_list, List.drop_zero, List.take_of_length_le (show t.data.toList.length ≤ t.size by rw [← Lib.size_eq]; exact Nat.le_refl _)]
  rw [Lib.size_eq] at h
  match hl : t.data.toList, h with
  | c :: e :: r, _ => rfl
set_option maxHeartbeats 1000000 in
set_option maxRecDepth 100000 in
theorem whole_short (b n : Nat) (sg : Bool) (w : World) (hn : n < 9007199254740992) (hS : Signs b sg) (hv : floatToIntVal .f64 b .i64 = some (sgnI sg n)) (h6 : (Lib.decDigits n).length ≤ 6) :
    Calls Tryd.prog 6 #[.float .f64 b] w fun e w' => RU w (sgn sg ++ wTxt n) e w' := by
  have HU : Aside (∀ wx, Calls Tryd.prog 11 #[.int .u64 n] wx fun e w' => e = .returned (.string ⟨(Lib.decDigits n).toArray⟩) ∧ Below wx.heap.size wx w') := fun wx => utoa_any n wx (by omega)
  have HV : Aside (floatToIntVal .f64 b .i64 = some (sgnI sg n)) := hv
  have HT : Aside (wTxt n = Lib.decDigits n ++ [46, 48]) := by rw [Aside, wTxt, if_pos h6]
  have hsz : (⟨(Lib.decDigits n).toArray⟩ : ByteArray).size ≤ 6 := by rw [Lib.size_eq]; exact h6
  have HS : Aside (Signs b sg) := hS
  clear hv hS
  clear h6
  generalize hds : (⟨(Lib.decDigits n).toArray⟩ : ByteArray) = s at *
  have HSL : Aside (s.data.toList = Lib.decDigits n) := by rw [Aside, ← hds]
  clear hds
  go_enter Tryd.func6, Tryd.ntmps6
  go_upto_if 11 with fail
  go_cut [3] (fun ng wx => ng = .bool sg ∧ wx = w)
  case first =>
    clear hsz
    rcases HS.out with ⟨e4, e5⟩ | ⟨r, e4, e5, e6, e7⟩
    · rw [e4, e5]
      go_wp2_with fail
      go_meet
      case rel => exact ⟨rfl, rfl⟩
    · rw [e4, e5]
      have hq := fun wx => run_float_arith (P := Tryd.prog) wx .quo 22 .f64 4607182418800017408 b r e6
      clear e6
      go_wp2_with fail
      go_meet
      case rel => exact ⟨rfl, rfl⟩
  case rest =>
    obtain ⟨rfl, hw⟩ := hcut
    subst hw
    clear HS
    have hcv := fun wx => run_convert_float_int (P := Tryd.prog) wx 22 2 .f64 .i64 b (sgnI sg n) (by rw [tyF]; rfl) tyI HV.out
    clear HV
    go_upto_if 18 with fail
    clear hcv
    go_cut [4] (fun nv wx => nv = .int .i64 n ∧ wx = wc)
    case first =>
      clear hsz
      cases sg with
      | false =>
        have hs : sgnI false n = (n : Int) := rfl
        have hlt : ¬ (n : Int) < 0 := by omega
        rw [hs]
        clear hs
        go_wp2_with fail
        go_meet
        case rel => exact ⟨rfl, rfl⟩
      | true =>
        have hs : sgnI true n = -(n : Int) := rfl
        rw [hs]
        clear hs
        by_cases h0 : n = 0
        · subst h0
          go_wp2_with fail
          go_meet
          case rel => exact ⟨rfl, rfl⟩
        · have hlt : -(n : Int) < 0 := by omega
          go_wp2_with fail
          go_meet
          case rel => exact ⟨by go_num, rfl⟩
    case rest =>
      obtain ⟨rfl, hw⟩ := hcut
      subst hw
      go_wp2_with fail
      refine (HU.out _).mono ?_
      rintro e w2 ⟨rfl, h2⟩
      have HB2 : Aside (Below wc.heap.size wc w2) := h2
      clear h2 HU
      have hle : (s.size : Int) ≤ 6 := by omega
      cases sg with
      | false =>
        go_wp2
        go_ret
        refine ⟨?_, HB2.out⟩
        rw [HT.out, ← HSL.out]
        exact congrArg (fun x => Ending.returned (.string x)) (ba_eq (by simp [sgn]))
      | true =>
        go_wp2
        go_ret
        refine ⟨?_, HB2.out⟩
        rw [HT.out, ← HSL.out]
        exact congrArg (fun x => Ending.returned (.string x)) (ba_eq (by simp [sgn]))
set_option maxHeartbeats 1000000 in
set_option maxRecDepth 100000 in
theorem whole_long (b n : Nat) (sg : Bool) (w : World) (hn : n < 9007199254740992) (hS : Signs b sg) (hv : floatToIntVal .f64 b .i64 = some (sgnI sg n)) (h6 : ¬ (Lib.decDigits n).length ≤ 6) (hlen : (Lib.decDigits n).length ≤ 20) (hdp : 1 ≤ (trimz (Lib.decDigits n)).length) :
    Calls Tryd.prog 6 #[.float .f64 b] w fun e w' => RU w (sgn sg ++ wTxt n) e w' := by
  have HU : Aside (∀ wx, Calls Tryd.prog 11 #[.int .u64 n] wx fun e w' => e = .returned (.string ⟨(Lib.decDigits n).toArray⟩) ∧ Below wx.heap.size wx w') := fun wx => utoa_any n wx (by omega)
  have HV : Aside (floatToIntVal .f64 b .i64 = some (sgnI sg n)) := hv
  have HT : Aside (wTxt n = mant (trimz (Lib.decDigits n)) ++ [101, 43] ++ exp2 ((Lib.decDigits n).length - 1)) := by rw [Aside, wTxt, if_neg h6]
  have HDP : Aside (1 ≤ (trimz (Lib.decDigits n)).length) := hdp
  have hsz : 6 < (⟨(Lib.decDigits n).toArray⟩ : ByteArray).size := by rw [Lib.size_eq]; simpa using h6
  have hsz2 : (⟨(Lib.decDigits n).toArray⟩ : ByteArray).size ≤ 20 := by rw [Lib.size_eq]; exact hlen
  clear hlen hdp
  have HS : Aside (Signs b sg) := hS
  clear hv hS
  clear h6
  generalize hds : (⟨(Lib.decDigits n).toArray⟩ : ByteArray) = s at *
  have HSL : Aside (s.data.toList = Lib.decDigits n) := by rw [Aside, ← hds]
  clear hds
  go_enter Tryd.func6, Tryd.ntmps6
  go_upto_if 11 with fail
  go_cut [3] (fun ng wx => ng = .bool sg ∧ wx = w)
  case first =>
    clear hsz
    rcases HS.out with ⟨e4, e5⟩ | ⟨r, e4, e5, e6, e7⟩
    · rw [e4, e5]
      go_wp2_with fail
      go_meet
      case rel => exact ⟨rfl, rfl⟩
    · rw [e4, e5]
      have hq := fun wx => run_float_arith (P := Tryd.prog) wx .quo 22 .f64 4607182418800017408 b r e6
      clear e6
      go_wp2_with fail
      go_meet
      case rel => exact ⟨rfl, rfl⟩
  case rest =>
    obtain ⟨rfl, hw⟩ := hcut
    subst hw
    clear HS
    have hcv := fun wx => run_convert_float_int (P := Tryd.prog) wx 22 2 .f64 .i64 b (sgnI sg n) (by rw [tyF]; rfl) tyI HV.out
    clear HV
    go_upto_if 18 with fail
    clear hcv
    go_cut [4] (fun nv wx => nv = .int .i64 n ∧ wx = wc)
    case first =>
      clear hsz
      cases sg with
      | false =>
        have hs : sgnI false n = (n : Int) := rfl
        have hlt : ¬ (n : Int) < 0 := by omega
        rw [hs]
        clear hs
        go_wp2_with fail
        go_meet
        case rel => exact ⟨rfl, rfl⟩
      | true =>
        have hs : sgnI true n = -(n : Int) := rfl
        rw [hs]
        clear hs
        by_cases h0 : n = 0
        · subst h0
          go_wp2_with fail
          go_meet
          case rel => exact ⟨rfl, rfl⟩
        · have hlt : -(n : Int) < 0 := by omega
          go_wp2_with fail
          go_meet
          case rel => exact ⟨by go_num, rfl⟩
    case rest =>
      obtain ⟨rfl, hw⟩ := hcut
      subst hw
      go_wp2_with fail
      refine (HU.out _).mono ?_
      rintro e w2 ⟨rfl, h2⟩
      have HB2 : Aside (Below wc.heap.size wc w2) := h2
      clear h2 HU
      have H12 : Aside (∀ wx, Calls Tryd.prog 12 #[.int .i64 ((s.size : Int) - 1)] wx fun e w' => RU wx (exp2 (s.size - 1)) e w') := fun wx => by
        have := twoDigits_any (s.size - 1) wx (by omega)
        rwa [show ((s.size - 1 : Nat) : Int) = (s.size : Int) - 1 by omega] at this
      have hle : ¬ (s.size : Int) ≤ 6 := by omega
      go_wp2_with fail
      go_loopg [7] s.size (fun kk tv wr => wr = w2 ∧ ∃ t : ByteArray, kk = t.size ∧ tv = .string t ∧ 1 ≤ t.size ∧ t.size ≤ 20 ∧ Aside (trimz t.data.toList = trimz (Lib.decDigits n)))
      case atStart => exact ⟨rfl, s, rfl, rfl, by omega, hsz2, by rw [Aside, HSL.out]⟩
      case round =>
        obtain ⟨hwr, t, rfl, rfl, ht1, ht2, HTT⟩ := hrel
        subst hwr
        have HLS : Aside (t.data.toList = (t.extract 0 (t.size - 1)).data.toList ++ [t[t.size - 1]]) := last_split ht1
        by_cases h1 : 1 < t.size
        · have h1' : (1 : Int) < (t.size : Int) := by omega
          by_cases hc : t[t.size - 1] = 48
          · have HC : Aside (trimz (t.extract 0 (t.size - 1)).data.toList = trimz (Lib.decDigits n)) := by
              rw [Aside, ← HTT.out, HLS.out, hc, trimz_zero]
            have hc' : ((t[t.size - 1].toNat : Int) == 48) = true := by rw [hc]; rfl
            clear hc
            go_wp2_with fail
            go_roundg (t.size - 1)
            case measure => omega
            case rel => exact ⟨rfl, t.extract 0 (t.size - 1), by simp, by go_num, by simp; omega, by simp; omega, HC⟩
          · have hc' : ((t[t.size - 1].toNat : Int) == 48) = false := beq_eq_false_iff_ne.2 (fun h => hc (u8_48 h))
            have HX : Aside (t.data.toList = trimz (Lib.decDigits n)) := by
              rw [Aside, ← HTT.out, HLS.out, trimz_other _ (beq_eq_false_iff_ne.2 hc)]
            clear hc
            have HM : Aside (mant (trimz (Lib.decDigits n)) = (t.extract 0 1).data.toList ++ 46 :: (t.extract 1 t.size).data.toList) := by rw [Aside, ← HX.out]; exact mant2 h1
            clear HTT HLS HX
            go_wp2_with fail
            refine (H12.out _).mono ?_
            rintro e w3 ⟨rfl, h3⟩
            have HB3 : Aside (Below wc.heap.size wc w3) := HB2.out.trans (h3.mono HB2.out.size)
            clear h3 H12 HB2
            have hxl := exp2_len (s.size - 1)
            have hx : (⟨(exp2 (s.size - 1)).toArray⟩ : ByteArray).size ≤ 3 := by rw [Lib.size_eq]; exact hxl
            clear hxl
            generalize hex : (⟨(exp2 (s.size - 1)).toArray⟩ : ByteArray) = x at *
            have HE : Aside (exp2 ((Lib.decDigits n).length - 1) = x.data.toList) := by
              rw [Aside, ← hex, ← HSL.out, ← Lib.size_eq]
            clear hex HSL
            cases sg with
            | false =>
              go_wp2
              go_ret
              refine ⟨?_, HB3.out⟩
              rw [HT.out, HM.out, HE.out]
              exact congrArg (fun x => Ending.returned (.string x)) (ba_eq (by simp [sgn]))
            | true =>
              go_wp2
              go_ret
              refine ⟨?_, HB3.out⟩
              rw [HT.out, HM.out, HE.out]
              exact congrArg (fun x => Ending.returned (.string x)) (ba_eq (by simp [sgn]))
        · have h1' : ¬ (1 : Int) < (t.size : Int) := by omega
          have HX : Aside (t.data.toList = trimz (Lib.decDigits n)) := by
            have hl := congrArg List.length HTT.out
            rw [Aside, ← HTT.out]
            have h3 : (trimz t.data.toList).length = t.data.toList.length := by
              have h4 := trimz_le t.data.toList
              have h5 := HDP.out
              rw [← hl] at h5
              rw [← Lib.size_eq] at *
              omega
            exact ((trimz_prefix t.data.toList).eq_of_length h3).symm
          have HM : Aside (mant (trimz (Lib.decDigits n)) = (t.extract 0 1).data.toList) := by rw [Aside, ← HX.out]; exact mant1 (by omega)
          clear HTT HLS HX
          go_wp2_with fail
          refine (H12.out _).mono ?_
          rintro e w3 ⟨rfl, h3⟩
          have HB3 : Aside (Below wc.heap.size wc w3) := HB2.out.trans (h3.mono HB2.out.size)
          clear h3 H12 HB2
          have hxl := exp2_len (s.size - 1)
          have hx : (⟨(exp2 (s.size - 1)).toArray⟩ : ByteArray).size ≤ 3 := by rw [Lib.size_eq]; exact hxl
          clear hxl
          generalize hex : (⟨(exp2 (s.size - 1)).toArray⟩ : ByteArray) = x at *
          have HE : Aside (exp2 ((Lib.decDigits n).length - 1) = x.data.toList) := by
            rw [Aside, ← hex, ← HSL.out, ← Lib.size_eq]
          clear hex HSL
          cases sg with
          | false =>
            go_wp2
            go_ret
            refine ⟨?_, HB3.out⟩
            rw [HT.out, HM.out, HE.out]
            exact congrArg (fun x => Ending.returned (.string x)) (ba_eq (by simp [sgn]))
          | true =>
            go_wp2
            go_ret
            refine ⟨?_, HB3.out⟩
            rw [HT.out, HM.out, HE.out]
            exact congrArg (fun x => Ending.returned (.string x)) (ba_eq (by simp [sgn]))

end Go.Proofs.Qxb6604548aDoor
