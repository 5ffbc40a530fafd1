import Derived.Test.Qxb6604548aDoorFt
import Derived.Test.Qxb6604548aDoorFu
namespace Go.Proofs.Qxb6604548aDoor
open Go.RowKit

theorem unary_neg_float (k : FloatKind) (b : Nat) : Op.unary .neg (.float k b) = pure (.float k (Op.negFloat k b)) := rfl
def RT (w : World) (e : Ending) (w' : World) : Prop := e = .returned (.bool true) ∧ Below w.heap.size w w'
def RA (w : World) (A : ByteArray) (e : Ending) (w' : World) : Prop := e = .returned (.string A) ∧ Below w.heap.size w w'
/-- The two literals. -/
def Two (b : Nat) (w : World) (A B : ByteArray) : Prop :=
  Calls Tryd.prog 5 #[.float .f64 b] w (fun e w' => RA w A e w') ∧ ∀ w1, Below w.heap.size w w1 → Calls Tryd.prog 5 #[.float .f64 (Op.negFloat .f64 b)] w1 (fun e w' => RA w1 B e w')
theorem law4_nan (b : Nat) (w : World) (h : Two b w { data := #[78, 97, 78, 46, 48] } { data := #[78, 97, 78, 46, 48] }) (e1 : (FloatKind.f64.format.order b b != some .eq) = true) :
    Calls Tryd.prog 4 #[.float .f64 b] w fun e w' => RT w e w' := by
  have hng := unary_neg_float .f64 b
  obtain ⟨HA, HB⟩ := h
  have HB' : Aside (∀ w1, Below w.heap.size w w1 → Calls Tryd.prog 5 #[.float .f64 (Op.negFloat .f64 b)] w1 (fun e w' => RA w1 { data := #[78, 97, 78, 46, 48] } e w')) := HB
  clear HB
  go_enter Tryd.func4, Tryd.ntmps4
  go_wp2_with fail
  refine HA.mono ?_
  rintro e w2 ⟨rfl, h2⟩
  have HC := HB'.out w2 h2
  have HB2 : Aside (Below w.heap.size w w2) := h2
  clear h2 HA HB'
  go_wp2_with fail
  refine HC.mono ?_
  rintro e w3 ⟨rfl, h3⟩
  have HB3 : Aside (Below w.heap.size w w3) := HB2.out.trans (h3.mono HB2.out.size)
  clear h3 HC HB2
  go_wp2
  go_ret
  exact ⟨rfl, HB3.out⟩
theorem law4_pinf (b : Nat) (w : World) (h : Two b w { data := #[43, 73, 110, 102, 46, 48] } { data := #[45, 73, 110, 102, 46, 48] }) (e1 : (FloatKind.f64.format.order b b != some .eq) = false) (e2 : (FloatKind.f64.format.order b 9218868437227405311 == some .gt) = true) :
    Calls Tryd.prog 4 #[.float .f64 b] w fun e w' => RT w e w' := by
  have hng := unary_neg_float .f64 b
  obtain ⟨HA, HB⟩ := h
  have HB' : Aside (∀ w1, Below w.heap.size w w1 → Calls Tryd.prog 5 #[.float .f64 (Op.negFloat .f64 b)] w1 (fun e w' => RA w1 { data := #[45, 73, 110, 102, 46, 48] } e w')) := HB
  clear HB
  go_enter Tryd.func4, Tryd.ntmps4
  go_wp2_with fail
  refine HA.mono ?_
  rintro e w2 ⟨rfl, h2⟩
  have HC := HB'.out w2 h2
  have HB2 : Aside (Below w.heap.size w w2) := h2
  clear h2 HA HB'
  go_wp2_with fail
  refine HC.mono ?_
  rintro e w3 ⟨rfl, h3⟩
  have HB3 : Aside (Below w.heap.size w w3) := HB2.out.trans (h3.mono HB2.out.size)
  clear h3 HC HB2
  go_wp2
  go_ret
  exact ⟨rfl, HB3.out⟩
theorem law4_ninf (b : Nat) (w : World) (h : Two b w { data := #[45, 73, 110, 102, 46, 48] } { data := #[43, 73, 110, 102, 46, 48] }) (e1 : (FloatKind.f64.format.order b b != some .eq) = false) (e2 : (FloatKind.f64.format.order b 9218868437227405311 == some .gt) = false) (e3 : (FloatKind.f64.format.order b 18442240474082181119 == some .lt) = true) :
    Calls Tryd.prog 4 #[.float .f64 b] w fun e w' => RT w e w' := by
  have hng := unary_neg_float .f64 b
  obtain ⟨HA, HB⟩ := h
  have HB' : Aside (∀ w1, Below w.heap.size w w1 → Calls Tryd.prog 5 #[.float .f64 (Op.negFloat .f64 b)] w1 (fun e w' => RA w1 { data := #[43, 73, 110, 102, 46, 48] } e w')) := HB
  clear HB
  go_enter Tryd.func4, Tryd.ntmps4
  go_wp2_with fail
  refine HA.mono ?_
  rintro e w2 ⟨rfl, h2⟩
  have HC := HB'.out w2 h2
  have HB2 : Aside (Below w.heap.size w w2) := h2
  clear h2 HA HB'
  go_wp2_with fail
  refine HC.mono ?_
  rintro e w3 ⟨rfl, h3⟩
  have HB3 : Aside (Below w.heap.size w w3) := HB2.out.trans (h3.mono HB2.out.size)
  clear h3 HC HB2
  go_wp2
  go_ret
  exact ⟨rfl, HB3.out⟩
theorem law4_pos (b : Nat) (w : World) (s : ByteArray) (hp : 0 < s.size) (hd : digB s[0].toNat = true) (n1 n2 n3 : Nat) (hs : s.size ≤ 1000) (hL : Lit3 s n1 n2 n3) (h : Two b w s ({ data := #[45] } ++ s)) (e1 : (FloatKind.f64.format.order b b != some .eq) = false) (e2 : (FloatKind.f64.format.order b 9218868437227405311 == some .gt) = false) (e3 : (FloatKind.f64.format.order b 18442240474082181119 == some .lt) = false) (e4 : (FloatKind.f64.format.order b 0 == some .lt) = false) (e5 : (FloatKind.f64.format.order b 0 == some .eq) = false) :
    Calls Tryd.prog 4 #[.float .f64 b] w fun e w' => RT w e w' := by
  have HL : Aside (Lit3 s n1 n2 n3) := hL
  clear hL
  have hng := unary_neg_float .f64 b
  obtain ⟨HA, HB⟩ := h
  have HB' : Aside (∀ w1, Below w.heap.size w w1 → Calls Tryd.prog 5 #[.float .f64 (Op.negFloat .f64 b)] w1 (fun e w' => RA w1 ({ data := #[45] } ++ s) e w')) := HB
  clear HB
  go_enter Tryd.func4, Tryd.ntmps4
  go_wp2_with fail
  refine HA.mono ?_
  rintro e w2 ⟨rfl, h2⟩
  have HC := HB'.out w2 h2
  have HB2 : Aside (Below w.heap.size w w2) := h2
  clear h2 HA HB'
  go_wp2_with fail
  refine HC.mono ?_
  rintro e w3 ⟨rfl, h3⟩
  have HB3 : Aside (Below w.heap.size w w3) := HB2.out.trans (h3.mono HB2.out.size)
  clear h3 HC HB2
  go_wp2_with (first
    | (go_at_call 9; refine (zzDigit_t hd _).mono ?_; rintro e w' ⟨rfl, hw⟩; rw [hw])
    | (go_at_call 7; refine (isLit_any s n1 n2 n3 _ hs HL.out).mono ?_; rintro e w' ⟨rfl, hw⟩; rw [hw]))
  go_ret
  exact ⟨rfl, HB3.out⟩
theorem law4_neg (b : Nat) (w : World) (s : ByteArray) (hp : 0 < s.size) (hd : digB s[0].toNat = true) (n1 n2 n3 : Nat) (hs : s.size ≤ 1000) (hL : Lit3 s n1 n2 n3) (h : Two b w ({ data := #[45] } ++ s) s) (e1 : (FloatKind.f64.format.order b b != some .eq) = false) (e2 : (FloatKind.f64.format.order b 9218868437227405311 == some .gt) = false) (e3 : (FloatKind.f64.format.order b 18442240474082181119 == some .lt) = false) (e4 : (FloatKind.f64.format.order b 0 == some .lt) = true) (e5 : (FloatKind.f64.format.order b 0 == some .eq) = false) :
    Calls Tryd.prog 4 #[.float .f64 b] w fun e w' => RT w e w' := by
  have HL : Aside (Lit3 s n1 n2 n3) := hL
  clear hL
  have hng := unary_neg_float .f64 b
  obtain ⟨HA, HB⟩ := h
  have HB' : Aside (∀ w1, Below w.heap.size w w1 → Calls Tryd.prog 5 #[.float .f64 (Op.negFloat .f64 b)] w1 (fun e w' => RA w1 s e w')) := HB
  clear HB
  go_enter Tryd.func4, Tryd.ntmps4
  go_wp2_with fail
  refine HA.mono ?_
  rintro e w2 ⟨rfl, h2⟩
  have HC := HB'.out w2 h2
  have HB2 : Aside (Below w.heap.size w w2) := h2
  clear h2 HA HB'
  go_wp2_with fail
  refine HC.mono ?_
  rintro e w3 ⟨rfl, h3⟩
  have HB3 : Aside (Below w.heap.size w w3) := HB2.out.trans (h3.mono HB2.out.size)
  clear h3 HC HB2
  go_wp2_with (first
    | (go_at_call 9; refine (zzDigit_t hd _).mono ?_; rintro e w' ⟨rfl, hw⟩; rw [hw])
    | (go_at_call 7; refine (isLit_any s n1 n2 n3 _ hs HL.out).mono ?_; rintro e w' ⟨rfl, hw⟩; rw [hw]))
  go_ret
  exact ⟨rfl, HB3.out⟩
theorem law4_pos0 (b : Nat) (w : World) (s : ByteArray) (hp : 0 < s.size) (hd : digB s[0].toNat = true) (n1 n2 n3 : Nat) (hs : s.size ≤ 1000) (hL : Lit3 s n1 n2 n3) (h : Two b w s ({ data := #[45] } ++ s)) (r : Nat) (e1 : (FloatKind.f64.format.order b b != some .eq) = false) (e2 : (FloatKind.f64.format.order b 9218868437227405311 == some .gt) = false) (e3 : (FloatKind.f64.format.order b 18442240474082181119 == some .lt) = false) (e4 : (FloatKind.f64.format.order b 0 == some .lt) = false) (e5 : (FloatKind.f64.format.order b 0 == some .eq) = true) (e6 : floatBits .quo .f64 4607182418800017408 b = some r) (e7 : (FloatKind.f64.format.order r 0 == some .lt) = false) :
    Calls Tryd.prog 4 #[.float .f64 b] w fun e w' => RT w e w' := by
  have HL : Aside (Lit3 s n1 n2 n3) := hL
  clear hL
  have hq := fun wx => run_float_arith (P := Tryd.prog) wx .quo 22 .f64 4607182418800017408 b r e6
  clear e6
  have hng := unary_neg_float .f64 b
  obtain ⟨HA, HB⟩ := h
  have HB' : Aside (∀ w1, Below w.heap.size w w1 → Calls Tryd.prog 5 #[.float .f64 (Op.negFloat .f64 b)] w1 (fun e w' => RA w1 ({ data := #[45] } ++ s) e w')) := HB
  clear HB
  go_enter Tryd.func4, Tryd.ntmps4
  go_wp2_with fail
  refine HA.mono ?_
  rintro e w2 ⟨rfl, h2⟩
  have HC := HB'.out w2 h2
  have HB2 : Aside (Below w.heap.size w w2) := h2
  clear h2 HA HB'
  go_wp2_with fail
  refine HC.mono ?_
  rintro e w3 ⟨rfl, h3⟩
  have HB3 : Aside (Below w.heap.size w w3) := HB2.out.trans (h3.mono HB2.out.size)
  clear h3 HC HB2
  go_wp2_with (first
    | (go_at_call 9; refine (zzDigit_t hd _).mono ?_; rintro e w' ⟨rfl, hw⟩; rw [hw])
    | (go_at_call 7; refine (isLit_any s n1 n2 n3 _ hs HL.out).mono ?_; rintro e w' ⟨rfl, hw⟩; rw [hw]))
  go_ret
  exact ⟨rfl, HB3.out⟩
theorem law4_neg0 (b : Nat) (w : World) (s : ByteArray) (hp : 0 < s.size) (hd : digB s[0].toNat = true) (n1 n2 n3 : Nat) (hs : s.size ≤ 1000) (hL : Lit3 s n1 n2 n3) (h : Two b w ({ data := #[45] } ++ s) s) (r : Nat) (e1 : (FloatKind.f64.format.order b b != some .eq) = false) (e2 : (FloatKind.f64.format.order b 9218868437227405311 == some .gt) = false) (e3 : (FloatKind.f64.format.order b 18442240474082181119 == some .lt) = false) (e4 : (FloatKind.f64.format.order b 0 == some .lt) = false) (e5 : (FloatKind.f64.format.order b 0 == some .eq) = true) (e6 : floatBits .quo .f64 4607182418800017408 b = some r) (e7 : (FloatKind.f64.format.order r 0 == some .lt) = true) :
    Calls Tryd.prog 4 #[.float .f64 b] w fun e w' => RT w e w' := by
  have HL : Aside (Lit3 s n1 n2 n3) := hL
  clear hL
  have hq := fun wx => run_float_arith (P := Tryd.prog) wx .quo 22 .f64 4607182418800017408 b r e6
  clear e6
  have hng := unary_neg_float .f64 b
  obtain ⟨HA, HB⟩ := h
  have HB' : Aside (∀ w1, Below w.heap.size w w1 → Calls Tryd.prog 5 #[.float .f64 (Op.negFloat .f64 b)] w1 (fun e w' => RA w1 s e w')) := HB
  clear HB
  go_enter Tryd.func4, Tryd.ntmps4
  go_wp2_with fail
  refine HA.mono ?_
  rintro e w2 ⟨rfl, h2⟩
  have HC := HB'.out w2 h2
  have HB2 : Aside (Below w.heap.size w w2) := h2
  clear h2 HA HB'
  go_wp2_with fail
  refine HC.mono ?_
  rintro e w3 ⟨rfl, h3⟩
  have HB3 : Aside (Below w.heap.size w w3) := HB2.out.trans (h3.mono HB2.out.size)
  clear h3 HC HB2
  go_wp2_with (first
    | (go_at_call 9; refine (zzDigit_t hd _).mono ?_; rintro e w' ⟨rfl, hw⟩; rw [hw])
    | (go_at_call 7; refine (isLit_any s n1 n2 n3 _ hs HL.out).mono ?_; rintro e w' ⟨rfl, hw⟩; rw [hw]))
  go_ret
  exact ⟨rfl, HB3.out⟩
end Go.Proofs.Qxb6604548aDoor
