import Derived.Test.Qxb6604548aDoorFj
import Derived.Room.AppendFits
namespace Go.Proofs.Qxb6604548aDoor
open Go.RowKit

def spec (nan neg : Bool) : List UInt8 := if nan then [78, 97, 78] else if neg then [45, 73, 110, 102] else [43, 73, 110, 102]
theorem og_str {w wx w' : World} {g0 : Nat} {s : ByteArray} (h1 : w'.ownsRow 0 5 1 (.slice (some ⟨g0, 0, none⟩) (0 + s.size) 24) (0 + s.size) ([] ++ Lib.strCells s)) (h2 : wx.grownBy w' (some g0)) (hw : w.grownBy wx (some g0)) : OG w g0 s.data.toList (.slice (some ⟨g0, 0, none⟩) (0 + s.size) 24) w' := by
  rw [Nat.zero_add, List.nil_append, Lib.size_eq, Lib.strCells_eq] at h1
  exact ⟨⟨g0, 24, by rw [Nat.zero_add, Lib.size_eq], h1, .inl rfl⟩, grown_trans hw h2⟩

set_option maxHeartbeats 1000000 in
set_option maxRecDepth 100000 in
theorem ftoa_X (g0 : Nat) (b : Nat) (w : World) (hb : b < 18446744073709551616) (hexv : b / 4503599627370496 % 2048 = 2047) (ho : w.ownsRow 0 5 1 (.slice (some ⟨g0, 0, none⟩) 0 24) 0 []) :
    Calls Tryd.prog 18 #[.slice (some ⟨g0, 0, none⟩) 0 24, .float .f64 b, .int .u8 103, .int .i64 (-1)] w fun e w' => RetG w g0 (spec (decide (b % 4503599627370496 ≠ 0)) (decide (b / 9223372036854775808 ≠ 0))) e w' := by
  obtain ⟨i5, hi5, hz50, hz51, hz52⟩ := info_parts Tryd.info5
  have e24 := ext24 b
  have HO : Aside (w.ownsRow 0 5 1 (.slice (some ⟨g0, 0, none⟩) 0 24) 0 []) := ho
  clear ho
  have hE := expBits hb
  have hM := mantBits hb
  rw [hexv] at hE
  have hE' : bits .and .i64 ((b : Int) / 4503599627370496) 2047 = 2047 := hE
  clear hexv hE
  generalize hmtv : b % 4503599627370496 = mt at *
  generalize hneg : decide (b / 9223372036854775808 ≠ 0) = neg
  have hnegv : ((b : Int) / 9223372036854775808 != 0) = neg := by
    rw [← hneg, show (b : Int) / 9223372036854775808 = ((b / 9223372036854775808 : Nat) : Int) by omega]
    generalize b / 9223372036854775808 = c
    by_cases h : c = 0
    · subst h; rfl
    · rw [decide_eq_true h]; exact bne_iff_ne.2 (fun hh => h (by omega))
  clear hneg hmtv
  go_enter Tryd.func18, Tryd.ntmps18
  go_upto_region 14 with fail
  clear hnegv
  go_quiet (fail)
  have HG : Aside (w.grownBy (w.drewN nq) (some g0)) := ⟨rfl, rfl, rfl, Nat.le_refl _, fun _ _ _ => rfl⟩
  by_cases hm : mt = 0
  · subst hm
    have hM' : bits .and .u64 (b : Int) 4503599627370495 = 0 := hM
    clear hM
    cases neg with
    | true =>
      go_wp2_with (at_builtin; refine Lib.wpList_append_fits_string (P := Tryd.prog) _ rfl (.tmp 73) (.const (.string { data := #[45, 73, 110, 102] })) 34 9 rfl 0 5 i5 Tryd.underlying34 Tryd.underlying9 hi5 hz51 (some ⟨g0, 0, none⟩) 0 24 [] rfl HO.out { data := #[45, 73, 110, 102] } rfl (by decide) (by decide) ?_; intro w2 h1 h2; have H2 := og_str h1 h2 HG.out; have HH : Aside (OG w g0 [45, 73, 110, 102] (.slice (some ⟨g0, 0, none⟩) 4 24) w2) := H2; clear h1 h2 H2)
      go_ret
      exact ⟨_, rfl, HH.out⟩
    | false =>
      go_wp2_with (at_builtin; refine Lib.wpList_append_fits_string (P := Tryd.prog) _ rfl (.tmp 75) (.const (.string { data := #[43, 73, 110, 102] })) 34 9 rfl 0 5 i5 Tryd.underlying34 Tryd.underlying9 hi5 hz51 (some ⟨g0, 0, none⟩) 0 24 [] rfl HO.out { data := #[43, 73, 110, 102] } rfl (by decide) (by decide) ?_; intro w2 h1 h2; have H2 := og_str h1 h2 HG.out; have HH : Aside (OG w g0 [43, 73, 110, 102] (.slice (some ⟨g0, 0, none⟩) 4 24) w2) := H2; clear h1 h2 H2)
      go_ret
      exact ⟨_, rfl, HH.out⟩
  · have hm0 : ((mt : Int) != 0) = true := bne_iff_ne.2 (by omega)
    have HD : Aside (decide (mt ≠ 0) = true) := decide_eq_true hm
    go_wp2_with (at_builtin; refine Lib.wpList_append_fits_string (P := Tryd.prog) _ rfl (.tmp 70) (.const (.string { data := #[78, 97, 78] })) 34 9 rfl 0 5 i5 Tryd.underlying34 Tryd.underlying9 hi5 hz51 (some ⟨g0, 0, none⟩) 0 24 [] rfl HO.out { data := #[78, 97, 78] } rfl (by decide) (by decide) ?_; intro w2 h1 h2; have H2 := og_str h1 h2 HG.out; have HH : Aside (OG w g0 [78, 97, 78] (.slice (some ⟨g0, 0, none⟩) 3 24) w2) := H2; clear h1 h2 H2)
    go_ret
    exact ⟨_, rfl, by rw [HD.out]; exact HH.out⟩
end Go.Proofs.Qxb6604548aDoor
