import Derived.Test.Qxb6604188aDoorA4
import Derived.Deep.OwnRows
import Derived.Lib.SliceRun
namespace Go.Proofs.Qxb6604188aDoor
open Go.RowKit

theorem Tryd.info9 : (Tryd.prog.info? 9).map (fun i => (i.zero, i.size, i.bytes)) = some (some (.string ByteArray.empty), 1, 16) := by kernel_rfl
theorem nil22 (a : Option Addr) (n c : Nat) : ∀ w, (binOp .eql 22 (.slice a n c) (.slice none 0 0)).run Tryd.prog w = .ok (.bool a.isNone) w := fun w =>
  Lib.run_eql_slice_nil (P := Tryd.prog) w 22 9 a n c 0 0 Tryd.underlying22

set_option maxHeartbeats 400000 in
theorem clone_nil (w : World) : Calls Tryd.prog 8 #[.slice none 0 0] w fun e w' => e = .returned (.slice none 0 0) ∧ w' = w := by
  have hnil := nil22 none 0 0
  go_enter Tryd.func8, Tryd.ntmps8
  go_wp2
  go_ret
  exact ⟨rfl, rfl⟩

def Cloned (w : World) (n : Nat) (S : Nat → ByteArray) (e : Ending) (w' : World) : Prop :=
  e = .returned (.slice (some ⟨w.heap.size, 0, none⟩) n n) ∧ w'.rowIs w.heap.size 9 n (fun k => .string (S k)) ∧ Below w.heap.size w w' ∧ w'.heap.size = w.heap.size + 1
/-- What the clone's loop keeps: k strings have been copied. -/
def Cl (w : World) (n : Nat) (S : Nat → ByteArray) (k : Nat) (wr : World) : Prop :=
  wr.rowIs w.heap.size 9 n (fun j => if j < k then .string (S j) else .string ByteArray.empty) ∧ Below w.heap.size w wr ∧ wr.heap.size = w.heap.size + 1
theorem cl_start (w : World) (n : Nat) (S : Nat → ByteArray) : Cl w n S 0 (w.alloc (.cells (madeCells #[.string ByteArray.empty] n) 9)) :=
  ⟨(World.rowIs_made w (.string ByteArray.empty) n 9).congr (fun i _ => by simp), (Below.refl _ _).alloc (Nat.le_refl _) _, by simp⟩
theorem cl_step {w : World} {n : Nat} {S : Nat → ByteArray} {k : Nat} {wr : World} (h : Cl w n S k wr) : Cl w n S (k + 1) (wr.setCell ⟨w.heap.size, k, none⟩ (.string (S k))) := by
  refine ⟨(h.1.set k (.string (S k))).congr (fun i _ => ?_), h.2.1.setCell (Nat.le_refl _) _, by simp [h.2.2]⟩
  by_cases e : i = k
  · subst e; simp
  · have : i < k + 1 ↔ i < k := by omega
    simp [e, this]
theorem cl_end {w : World} {n : Nat} {S : Nat → ByteArray} {wr : World} (h : Cl w n S n wr) {e : Ending} (he : e = .returned (.slice (some ⟨w.heap.size, 0, none⟩) n n)) : Cloned w n S e wr :=
  ⟨he, h.1.congr (fun i hi => by simp [hi]), h.2⟩

set_option maxHeartbeats 400000 in
theorem clone_some (a : Addr) (n c : Nat) (S : Nat → ByteArray) (w : World) (hn : n ≤ 1048576) (hr : Rd w (some a) n S) :
    Calls Tryd.prog 8 #[.slice (some a) n c] w fun e w' => Cloned w n S e w' := by

  have hmk := run_make_row' (P := Tryd.prog) 22 9 (.string ByteArray.empty) 16 Tryd.underlying22 Tryd.info9 rfl .i64 .i64 n (by omega) (by omega)
  have hnil := nil22 (some a) n c
  go_enter Tryd.func8, Tryd.ntmps8
  go_wp2
  go_loopw [4] (fun i wr => ∃ k : Nat, k ≤ n ∧ i = .int .i64 k ∧ Cl w n S k wr) (fun i _ => n - (intOf i).toNat)
  case atStart => exact ⟨0, Nat.zero_le _, rfl, cl_start w n S⟩
  case round =>
    obtain ⟨k, hk, rfl, hcl⟩ := hrel
    by_cases hlt : k < n
    · obtain ⟨b, off, e, hc⟩ := hr k hlt
      cases e
      have h1 : wr.cell? ⟨b, off + k, none⟩ = some (.string (S k)) := cell_later hcl.2.1 hc
      have h2 := hcl.1.cell hlt
      have h3 := hcl.1.frozen k
      have HC : Hid (Cl w n S k wr) := hcl
      clear hcl hc
      go_wp2
      go_roundw
      case rel => exact ⟨k + 1, by omega, by go_num, cl_step HC.out⟩
      case measure => simp [intOf]; omega
    · obtain rfl : k = n := by omega
      have HC : Hid (Cl w k S k wr) := hcl
      clear hcl
      go_wp2
      go_ret
      exact cl_end HC.out rfl
end Go.Proofs.Qxb6604188aDoor
