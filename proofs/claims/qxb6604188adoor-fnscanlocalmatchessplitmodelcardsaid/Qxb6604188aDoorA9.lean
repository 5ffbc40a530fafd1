import Derived.Test.Qxb6604188aDoorA8
namespace Go.Proofs.Qxb6604188aDoor
open Go.RowKit

/-- WHAT ZZScanLocal HANDS BACK. -/
def ZZ (w : World) (ao : Option Addr) (n : Nat) (olds : List Value) (s : ByteArray) (i : Int) (e : Ending) (w' : World) : Prop :=
  ∃ ok gs q v', e = .returned (.tuple #[.bool ok, v', .int .i64 (q : Nat)]) ∧ Scan s gs i.toNat ok q ∧ Cur w' (w.heap.size + 2) ao n olds v' (gs.map Value.string) ∧ Below w.heap.size w w'

theorem st_start (w : World) (ao : Option Addr) (n : Nat) (olds : List Value) (s : ByteArray) (i : Int) (c0 c1 c2 c3 c4 c5 c6 c7 c8 : Value) :
    St w w.heap.size ao n olds s i [] (.slice ao n n) ((w.alloc (.cells #[c0, c1, c2, c3, c4, c5, c6, c7, c8, .slice ao n n] 35)).alloc (.cells #[.string s, .int .i64 i] 38)) := by
  generalize hO1 : Obj.cells #[c0, c1, c2, c3, c4, c5, c6, c7, c8, .slice ao n n] 35 = o1
  generalize hO2 : Obj.cells #[.string s, .int .i64 i] 38 = o2
  have hA : ((w.alloc o1).alloc o2).heap[w.heap.size]? = some o1 := by
    rw [Below.heap_alloc _ _ _ (by simp)]; exact heap_alloc_new w o1
  have hB : ((w.alloc o1).alloc o2).heap[w.heap.size + 1]? = some o2 := by
    have := heap_alloc_new (w.alloc o1) o2
    simpa using this
  refine ⟨Cur.start _ _ _ _ _, ?_, ?_, ?_, ?_, ?_, ((Below.refl _ _).alloc (Nat.le_refl _) _).alloc (by simp) _, by simp⟩
  · rw [World.cell?, hA, ← hO1]; rfl
  · rw [World.frozen?, hA, ← hO1]; rfl
  · rw [World.cell?, hB, ← hO2]; rfl
  · rw [World.cell?, hB, ← hO2]; rfl
  · rw [World.frozen?, hB, ← hO2]; rfl

set_option maxHeartbeats 400000 in
theorem ZZScanLocal_any (w : World) (ao : Option Addr) (n : Nat) (olds : List Value) (s : ByteArray) (i : Int) (hn : n ≤ 1048576) (hs : s.size ≤ 1048576) (hi0 : 0 ≤ i) (hi1 : i ≤ 9223372036854775807) (ho : Olds w ao n olds) :
    Calls Tryd.prog 9 #[.slice ao n n, .string s, .int .i64 i] w fun e w' => ZZ w ao n olds s i e w' := by
  have HO : Aside (Olds w ao n olds) := ho
  clear ho
  go_enter Tryd.func9, Tryd.ntmps9
  go_wp2_with (go_at_call 18; refine (scanLocal_any w _ w.heap.size ao n olds s i rfl hn hs hi0 hi1 HO.out (by exact st_start _ _ _ _ _ _ _ _ _ _ _ _ _ _ _)).mono ?_; rintro e w' ⟨ok, gs, q, v', rfl, h1, h2⟩)
  have hcv := h2.cv
  have hci := h2.ci
  have H1 : Aside (Scan s gs i.toNat ok q) := h1
  have H2 : Aside (St w w.heap.size ao n olds s q (List.map Value.string gs) v' w') := h2
  clear h1 h2
  go_quiet (fail)
  go_wp2
  go_ret3
  exact ⟨ok, gs, q, v', rfl, H1.out, H2.out.cur, (H2.out.drewN _).bel⟩
end Go.Proofs.Qxb6604188aDoor
