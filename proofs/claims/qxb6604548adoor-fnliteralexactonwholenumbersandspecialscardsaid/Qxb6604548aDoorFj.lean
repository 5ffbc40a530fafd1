import Derived.Test.Qxb6604548aDoorFi
namespace Go.Proofs.Qxb6604548aDoor
open Go.RowKit

set_option maxHeartbeats 1000000 in
set_option maxRecDepth 100000 in
theorem ftoa_0 (g0 : Nat) (b : Nat) (v : Value) (w : World) (hb : b < 18446744073709551616) (hexv : b / 4503599627370496 % 2048 = 0) (hmtv : b % 4503599627370496 = 0) (hv : v = .slice (some ⟨g0, 0, none⟩) 0 24) (ho : w.ownsRow 0 5 1 (.slice (some ⟨g0, 0, none⟩) 0 24) 0 []) :
    Calls Tryd.prog 18 #[v, .float .f64 b, .int .u8 103, .int .i64 (-1)] w fun e w' => RetG w g0 (sgn (decide (b / 9223372036854775808 ≠ 0)) ++ [48]) e w' := by
  have e24 := ext24 b
  have HOG : Aside (∀ n, OG (w.drewN n) g0 [] v (w.drewN n)) := fun n => ⟨⟨g0, 24, hv, ho, .inl rfl⟩, World.grownBy.refl _ _⟩
  clear ho hv
  have hE := expBits hb
  have hM := mantBits hb
  rw [hexv] at hE
  rw [hmtv] at hM
  have hE' : bits .and .i64 ((b : Int) / 4503599627370496) 2047 = 0 := hE
  have hM' : bits .and .u64 (b : Int) 4503599627370495 = 0 := hM
  clear hexv hmtv hE hM
  generalize hneg : decide (b / 9223372036854775808 ≠ 0) = neg
  have hnegv : ((b : Int) / 9223372036854775808 != 0) = neg := by
    rw [← hneg, show (b : Int) / 9223372036854775808 = ((b / 9223372036854775808 : Nat) : Int) by omega]
    generalize b / 9223372036854775808 = c
    by_cases h : c = 0
    · subst h; rfl
    · rw [decide_eq_true h]; exact bne_iff_ne.2 (fun hh => h (by omega))
  clear hneg
  go_enter Tryd.func18, Tryd.ntmps18
  go_upto_region 14 with fail
  clear hnegv
  go_quiet (fail)
  go_wp2_with fail
  refine (fmt_zero g0 [] v neg _ (by simp) (HOG.out nq)).mono ?_
  rintro e w6 ⟨v6, rfl, h6⟩
  have H6 : Aside (RetG w g0 (sgn neg ++ [48]) (.returned v6) w6) := ⟨v6, rfl, by simpa using og_from (w := w) (w5 := w.drewN nq) ⟨rfl, rfl, rfl, Nat.le_refl _, fun _ _ _ => rfl⟩ h6⟩
  clear h6
  go_wp2
  go_ret
  exact H6.out
end Go.Proofs.Qxb6604548aDoor
