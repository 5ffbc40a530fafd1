import Derived.Test.Qxb6604277aDoorA5
import Derived.Laws.BytesString
import Derived.Laws.CopyOwn
namespace Go.Proofs.Qxb6604277aDoor
open Go.RowKit

theorem push_all : ∀ (ns : List UInt8) (s : ByteArray), ((ns.map fun b => (b.toNat : Int)).foldl (fun r n => r.push (UInt8.ofNat n.toNat)) s) = ⟨(s.data.toList ++ ns).toArray⟩
  | [], s => by apply ba_eq; simp
  | b :: t, s => by
    rw [List.map_cons, List.foldl_cons, push_all t]
    apply ba_eq
    simp [ByteArray.push]
theorem run_conv_ob {w wx : World} {l : List UInt8} {v : Value} (h : OB w l v wx) : (convert 30 9 v).run Tryd.prog wx = .ok (.string ⟨l.toArray⟩) wx := by
  have h0 := h.1
  rcases h.1.2 with ⟨rfl, hz⟩ | ⟨g, cap, cur, rfl, hrest⟩
  · obtain rfl : l = [] := List.eq_nil_of_length_eq_zero hz
    rw [run_convert_bytes_string (P := Tryd.prog) wx 30 9 5 none 0 0 Tryd.underlying30 Tryd.underlying5 Tryd.underlying9]
    rfl
  · rw [run_convert_bytes_string (P := Tryd.prog) wx 30 9 5 _ _ _ Tryd.underlying30 Tryd.underlying5 Tryd.underlying9]
    have hl := run_loadCells_list (P := Tryd.prog) wx ⟨g, 0, none⟩ (Lib.byteCells l) (fun j u hj => h0.cells rfl j u hj)
    have hb : Lib.byteCells l = (l.map fun b => (b.toNat : Int)).map (Value.int .u8) := by simp [Lib.byteCells]
    rw [Lib.byteCells_length, hb] at hl
    rw [run_bytesToString (P := Tryd.prog) wx ⟨g, 0, none⟩ l.length cap (l.map fun b => (b.toNat : Int)) hl, push_all]
    rfl
theorem neq22 (a : Option Addr) (n c : Nat) : ∀ w, (binOp .neq 22 (.slice a n c) (.slice none 0 0)).run Tryd.prog w = .ok (.bool (!a.isNone)) w := fun w =>
  run_neq_slice_nil_any (P := Tryd.prog) w 22 9 a n c 0 0 Tryd.underlying22
end Go.Proofs.Qxb6604277aDoor
