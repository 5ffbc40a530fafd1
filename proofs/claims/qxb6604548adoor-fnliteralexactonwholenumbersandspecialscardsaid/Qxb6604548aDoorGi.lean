import Derived.Test.Qxb6604548aDoorGh
import Derived.Test.Qxb6604548aDoorGc
import Derived.Test.Qxb6604548aDoorFx
namespace Go.Proofs.Qxb6604548aDoor
open Go.RowKit

/-- The literal. -/
def One (b : Nat) (w : World) (A : ByteArray) : Prop := Calls Tryd.prog 5 #[.float .f64 b] w (fun e w' => RA w A e w')
theorem law3_nan (b : Nat) (w : World)  (h : One b w { data := #[78, 97, 78, 46, 48] }) (e1 : (FloatKind.f64.format.order b b != some .eq) = true) :
    Calls Tryd.prog 3 #[.float .f64 b] w fun e w' => RT w e w' := by
  have HA : Aside (One b w { data := #[78, 97, 78, 46, 48] }) := h
  clear h
  go_enter Tryd.func3, Tryd.ntmps3
  go_wp2_with fail
  refine HA.out.mono ?_
  rintro e w2 ⟨rfl, h2⟩
  have HB2 : Aside (Below w.heap.size w w2) := h2
  clear h2 HA
  go_wp2
  go_ret
  exact ⟨rfl, HB2.out⟩
theorem law3_pinf (b : Nat) (w : World)  (h : One b w { data := #[43, 73, 110, 102, 46, 48] }) (e1 : (FloatKind.f64.format.order b b != some .eq) = false) (e2 : (FloatKind.f64.format.order b 9218868437227405311 == some .gt) = true) :
    Calls Tryd.prog 3 #[.float .f64 b] w fun e w' => RT w e w' := by
  have HA : Aside (One b w { data := #[43, 73, 110, 102, 46, 48] }) := h
  clear h
  go_enter Tryd.func3, Tryd.ntmps3
  go_wp2_with fail
  refine HA.out.mono ?_
  rintro e w2 ⟨rfl, h2⟩
  have HB2 : Aside (Below w.heap.size w w2) := h2
  clear h2 HA
  go_wp2
  go_ret
  exact ⟨rfl, HB2.out⟩
theorem law3_ninf (b : Nat) (w : World)  (h : One b w { data := #[45, 73, 110, 102, 46, 48] }) (e1 : (FloatKind.f64.format.order b b != some .eq) = false) (e2 : (FloatKind.f64.format.order b 9218868437227405311 == some .gt) = false) (e3 : (FloatKind.f64.format.order b 18442240474082181119 == some .lt) = true) :
    Calls Tryd.prog 3 #[.float .f64 b] w fun e w' => RT w e w' := by
  have HA : Aside (One b w { data := #[45, 73, 110, 102, 46, 48] }) := h
  clear h
  go_enter Tryd.func3, Tryd.ntmps3
  go_wp2_with fail
  refine HA.out.mono ?_
  rintro e w2 ⟨rfl, h2⟩
  have HB2 : Aside (Below w.heap.size w w2) := h2
  clear h2 HA
  go_wp2
  go_ret
  exact ⟨rfl, HB2.out⟩
theorem law3_whole (b : Nat) (w : World) (s : ByteArray) (v : Int) (H6 : ∀ wx, Calls Tryd.prog 6 #[.float .f64 b] wx (fun e w' => RA wx s e w')) (h : One b w s) (e1 : (FloatKind.f64.format.order b b != some .eq) = false) (e2 : (FloatKind.f64.format.order b 9218868437227405311 == some .gt) = false) (e3 : (FloatKind.f64.format.order b 18442240474082181119 == some .lt) = false) (e8 : (FloatKind.f64.format.order b 14069245235905429504 == some .gt) = true) (e9 : (FloatKind.f64.format.order b 4845873199050653696 == some .lt) = true) (hv : floatToIntVal .f64 b .i64 = some v) (e10 : (FloatKind.f64.format.order (floatOfInt .f64 v) b == some .eq) = true) :
    Calls Tryd.prog 3 #[.float .f64 b] w fun e w' => RT w e w' := by
  have H6' : Aside (∀ wx, Calls Tryd.prog 6 #[.float .f64 b] wx (fun e w' => RA wx s e w')) := H6
  clear H6
  have hcv := fun wx => run_convert_float_int (P := Tryd.prog) wx 22 2 .f64 .i64 b v (by rw [tyF]; rfl) tyI hv
  have hcv2 := fun wx => run_convert_int_float (P := Tryd.prog) wx 2 22 .i64 .f64 v (by rw [tyI]; rfl) tyF
  clear hv
  have HA : Aside (One b w s) := h
  clear h
  go_enter Tryd.func3, Tryd.ntmps3
  go_wp2_with fail
  refine HA.out.mono ?_
  rintro e w2 ⟨rfl, h2⟩
  have HB2 : Aside (Below w.heap.size w w2) := h2
  clear h2 HA
  go_wp2_with fail
  refine (H6'.out _).mono ?_
  rintro e w3 ⟨rfl, h3⟩
  have HB3 : Aside (Below w.heap.size w w3) := HB2.out.trans (h3.mono HB2.out.size)
  clear h3 HB2 H6'
  go_wp2
  go_ret
  exact ⟨rfl, HB3.out⟩
theorem law3_frac (b : Nat) (w : World) (s : ByteArray) (k : Nat) (H7 : ∀ wx, Calls Tryd.prog 7 #[.string s] wx (fun e w' => RB true wx e w')) (H8 : ∀ wx, Calls Tryd.prog 8 #[.string s] wx (fun e w' => RN k wx e w')) (hk : (k : Int) ≤ 17) (v : Int) (h : One b w s) (e1 : (FloatKind.f64.format.order b b != some .eq) = false) (e2 : (FloatKind.f64.format.order b 9218868437227405311 == some .gt) = false) (e3 : (FloatKind.f64.format.order b 18442240474082181119 == some .lt) = false) (e8 : (FloatKind.f64.format.order b 14069245235905429504 == some .gt) = true) (e9 : (FloatKind.f64.format.order b 4845873199050653696 == some .lt) = true) (hv : floatToIntVal .f64 b .i64 = some v) (e10 : (FloatKind.f64.format.order (floatOfInt .f64 v) b == some .eq) = false) :
    Calls Tryd.prog 3 #[.float .f64 b] w fun e w' => RT w e w' := by
  have H7' : Aside (∀ wx, Calls Tryd.prog 7 #[.string s] wx (fun e w' => RB true wx e w')) := H7
  have H8' : Aside (∀ wx, Calls Tryd.prog 8 #[.string s] wx (fun e w' => RN k wx e w')) := H8
  clear H7 H8
  have hcv := fun wx => run_convert_float_int (P := Tryd.prog) wx 22 2 .f64 .i64 b v (by rw [tyF]; rfl) tyI hv
  have hcv2 := fun wx => run_convert_int_float (P := Tryd.prog) wx 2 22 .i64 .f64 v (by rw [tyI]; rfl) tyF
  clear hv
  have HA : Aside (One b w s) := h
  clear h
  go_enter Tryd.func3, Tryd.ntmps3
  go_wp2_with fail
  refine HA.out.mono ?_
  rintro e w2 ⟨rfl, h2⟩
  have HB2 : Aside (Below w.heap.size w w2) := h2
  clear h2 HA
  go_wp2_with (first
    | (go_at_call 7; refine (H7'.out _).mono ?_; rintro e w' ⟨rfl, hw⟩; rw [hw])
    | (go_at_call 8; refine (H8'.out _).mono ?_; rintro e w' ⟨rfl, hw⟩; rw [hw]))
  go_ret
  exact ⟨rfl, HB2.out⟩
theorem law3_big (b : Nat) (w : World) (s : ByteArray) (k : Nat) (H7 : ∀ wx, Calls Tryd.prog 7 #[.string s] wx (fun e w' => RB true wx e w')) (H8 : ∀ wx, Calls Tryd.prog 8 #[.string s] wx (fun e w' => RN k wx e w')) (hk : (k : Int) ≤ 17) (h : One b w s) (e1 : (FloatKind.f64.format.order b b != some .eq) = false) (e2 : (FloatKind.f64.format.order b 9218868437227405311 == some .gt) = false) (e3 : (FloatKind.f64.format.order b 18442240474082181119 == some .lt) = false) (e8 : (FloatKind.f64.format.order b 14069245235905429504 == some .gt) = true) (e9 : (FloatKind.f64.format.order b 4845873199050653696 == some .lt) = false) :
    Calls Tryd.prog 3 #[.float .f64 b] w fun e w' => RT w e w' := by
  have H7' : Aside (∀ wx, Calls Tryd.prog 7 #[.string s] wx (fun e w' => RB true wx e w')) := H7
  have H8' : Aside (∀ wx, Calls Tryd.prog 8 #[.string s] wx (fun e w' => RN k wx e w')) := H8
  clear H7 H8
  have HA : Aside (One b w s) := h
  clear h
  go_enter Tryd.func3, Tryd.ntmps3
  go_wp2_with fail
  refine HA.out.mono ?_
  rintro e w2 ⟨rfl, h2⟩
  have HB2 : Aside (Below w.heap.size w w2) := h2
  clear h2 HA
  go_wp2_with (first
    | (go_at_call 7; refine (H7'.out _).mono ?_; rintro e w' ⟨rfl, hw⟩; rw [hw])
    | (go_at_call 8; refine (H8'.out _).mono ?_; rintro e w' ⟨rfl, hw⟩; rw [hw]))
  go_ret
  exact ⟨rfl, HB2.out⟩
theorem law3_low (b : Nat) (w : World) (s : ByteArray) (k : Nat) (H7 : ∀ wx, Calls Tryd.prog 7 #[.string s] wx (fun e w' => RB true wx e w')) (H8 : ∀ wx, Calls Tryd.prog 8 #[.string s] wx (fun e w' => RN k wx e w')) (hk : (k : Int) ≤ 17) (h : One b w s) (e1 : (FloatKind.f64.format.order b b != some .eq) = false) (e2 : (FloatKind.f64.format.order b 9218868437227405311 == some .gt) = false) (e3 : (FloatKind.f64.format.order b 18442240474082181119 == some .lt) = false) (e8 : (FloatKind.f64.format.order b 14069245235905429504 == some .gt) = false) :
    Calls Tryd.prog 3 #[.float .f64 b] w fun e w' => RT w e w' := by
  have H7' : Aside (∀ wx, Calls Tryd.prog 7 #[.string s] wx (fun e w' => RB true wx e w')) := H7
  have H8' : Aside (∀ wx, Calls Tryd.prog 8 #[.string s] wx (fun e w' => RN k wx e w')) := H8
  clear H7 H8
  have HA : Aside (One b w s) := h
  clear h
  go_enter Tryd.func3, Tryd.ntmps3
  go_wp2_with fail
  refine HA.out.mono ?_
  rintro e w2 ⟨rfl, h2⟩
  have HB2 : Aside (Below w.heap.size w w2) := h2
  clear h2 HA
  go_wp2_with (first
    | (go_at_call 7; refine (H7'.out _).mono ?_; rintro e w' ⟨rfl, hw⟩; rw [hw])
    | (go_at_call 8; refine (H8'.out _).mono ?_; rintro e w' ⟨rfl, hw⟩; rw [hw]))
  go_ret
  exact ⟨rfl, HB2.out⟩
end Go.Proofs.Qxb6604548aDoor
