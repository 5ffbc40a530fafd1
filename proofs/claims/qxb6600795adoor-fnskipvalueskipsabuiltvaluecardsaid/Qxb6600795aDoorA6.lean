import Derived.Test.Qxb6600795aDoorA5
import Derived.Lib.AsciiSet
import Derived.Laws.ResultCell
import Derived.Deep.WholeRow
import Derived.Laws.Externs
namespace Go.Proofs.Qxb6600795aDoor
open Go.RowKit

def sepB : ByteArray := { data := #[44, 125, 32, 9, 10, 13] }
def seps : List UInt8 := [44, 125, 32, 9, 10, 13]
theorem und37 : Tryd.prog.underlying 37 = some (.array 256 4) := by kernel_rfl
theorem agg37 (w : World) : (isAgg 37).run Tryd.prog w = .ok true w := by kernel_rfl
theorem size37 (w : World) : (Go.sizeOf 37).run Tryd.prog w = .ok 256 w := by kernel_rfl
theorem zero37 (w : World) : (zeroValue 37).run Tryd.prog w = .ok (.agg (Array.replicate 256 (.bool false))) w := by kernel_rfl
theorem info37 : (Tryd.prog.info? 37).map (·.size) = some 256 := by kernel_rfl

theorem wp_load_run {o : Oper} {a : Act} {w w' : World} {next : Act → World → Prop} {Q : Exit → Act → World → Prop} {t : TypeId} {x : Operand} {v r : Value} (hop : o.op = .load t x) (hx : a.eval x = v) (hrun : (Instr.loadAt t v).run Tryd.prog w = .ok r w') (hK : next (a.put o.dst r) w') : o.wp Tryd.prog a w next Q := by
  unfold Oper.wp
  simp [execOp, hop, hx, hrun, Result.andThen]
  exact hK
set_option maxHeartbeats 4000000 in
set_option maxRecDepth 1000000 in
theorem makeSet_gen (chars : ByteArray) (w : World) (hs : chars.size < 4294967281) (hascii : ∀ (j : Nat) b, chars.data.toList[j]? = some b → b.toNat < 128) :
    Calls Tryd.prog 20 #[.string chars] w fun e w' => e = .returned (.tuple #[.agg (Lib.setCells chars.data.toList), .bool true]) ∧ w' = w.alloc (.cells (Lib.setCells chars.data.toList) 37) := by
  have HA : Aside (∀ (j : Nat) b, chars.data.toList[j]? = some b → b.toNat < 128) := hascii
  clear hascii
  have hz := zero37
  have t37 := und37
  go_enter Tryd.func20, Tryd.ntmps20
  go_wp2_with fail
  rw [← Lib.setCells_nil]
  go_loopg [4] chars.size (fun g s4 wx => ∃ i : Nat, i + g = chars.size ∧ s4 = .int .i64 i ∧ wx = w.alloc (.cells (Lib.setCells (chars.data.toList.take i)) 37))
  case atStart => exact ⟨0, by omega, rfl, rfl⟩
  case round =>
    obtain ⟨i, hig, rfl, rfl⟩ := hrel
    cases gk with
    | zero =>
      obtain rfl : i = chars.size := by omega
      have hiz : ¬ ((chars.size : Int) < (chars.size : Int)) := by omega
      rw [show chars.data.toList.take chars.size = chars.data.toList from List.take_of_length_le (by rw [← Lib.size_eq]; exact Nat.le_refl _)]
      have hsz := Lib.setCells_size chars.data.toList
      have hld := run_loadVar_new (P := Tryd.prog) w 37 (Lib.setCells chars.data.toList) 256 4 und37 (by rw [hsz]; exact info37)
      have hl1 := run_loadAt_new (P := Tryd.prog) w 37 (Lib.setCells chars.data.toList) 256 4 und37 (by rw [hsz]; exact info37)
      have hsc := run_storeCells_new (P := Tryd.prog) w 37 (Lib.setCells chars.data.toList) (Lib.setCells chars.data.toList) (by rw [hsz]; exact info37) rfl (Lib.setCells_one _)
      go_wp2
      refine wp_load_run rfl rfl hl1 ?_
      go_wp2
      refine bodyPost_ret (v := .tuple #[.agg (Lib.setCells chars.data.toList), .bool true]) ?_ rfl ⟨rfl, rfl⟩
      rw [results_cell_tmp rfl]
      simp [asAddr, Result.andThen, hld]
    | succ g =>
      have hi : i < chars.size := by omega
      have hiz : (i : Int) < (chars.size : Int) := by omega
      obtain ⟨x, hx⟩ : ∃ x : UInt8, chars[i]'hi = x := ⟨_, rfl⟩
      have hxl : chars.data.toList[i]? = some x := by rw [← hx]; exact Lib.data_getElem? chars i hi
      have hx128 : ¬ ((128 : Int) ≤ (x.toNat : Int)) := by have := HA.out i x hxl; omega
      have hx256 : (x.toNat : Int) < 256 := by have := HA.out i x hxl; omega
      have hcell := Lib.setCells_at (chars.data.toList.take i) x
      have Hx : Aside (chars.data.toList[i]? = some x) := hxl
      clear hxl
      go_wp2
      go_roundg g
      case measure => omega
      case rel => exact ⟨i + 1, by omega, by first | rfl | simp, by rw [List.take_add_one, Hx.out]; simp only [Option.toList]; rw [Lib.setCells_snoc]⟩

theorem seps_ascii : ∀ (j : Nat) b, sepB.data.toList[j]? = some b → b.toNat < 128 := fun j b h => by
  have hm : b ∈ seps := List.mem_of_getElem? h
  simp only [seps, List.mem_cons, List.not_mem_nil, or_false] at hm
  rcases hm with rfl | rfl | rfl | rfl | rfl | rfl <;> decide
theorem makeSet_any (w : World) : Calls Tryd.prog 20 #[.string sepB] w fun e w' => e = .returned (.tuple #[.agg (Lib.setCells seps), .bool true]) ∧ w' = w.alloc (.cells (Lib.setCells seps) 37) :=
  makeSet_gen sepB w (by decide) seps_ascii

set_option maxHeartbeats 1000000 in
theorem contains_any (b : Nat) (x : UInt8) (v : Bool) (w : World) (hc : w.cell? ⟨b, x.toNat, none⟩ = some (.bool v)) :
    Calls Tryd.prog 21 #[.pointer (some ⟨b, 0, none⟩), .int .u8 x.toNat] w fun e w' => e = .returned (.bool v) ∧ w' = w := by
  have hx256 : (x.toNat : Int) < 256 := by have := UInt8.toNat_lt x; omega
  have t37 := und37
  go_enter Tryd.func21, Tryd.ntmps21
  go_wp2
  go_ret
  exact ⟨rfl, rfl⟩
theorem shouldUse_any (n : Int) (w : World) : Calls Tryd.prog 19 #[.int .i64 n] w fun e w' => e = .returned (.bool (decide (8 < n))) ∧ w' = w := by
  go_enter Tryd.func19, Tryd.ntmps19
  go_wp2
  go_ret
  exact ⟨rfl, rfl⟩
def sepQ (x : UInt8) : Bool := seps.contains x
theorem first_sep : ∀ n : Fin 256, decide (0 ≤ firstIdx sepB (UInt8.ofNat n)) = sepQ (UInt8.ofNat n) := by decide +kernel
theorem first_sepQ (x : UInt8) : decide (0 ≤ firstIdx sepB x) = sepQ x := by
  have := first_sep ⟨x.toNat, UInt8.toNat_lt x⟩
  simpa using this
theorem ext17 (x : UInt8) (w : World) : (callFunc 17 #[.string sepB, .int .u8 x.toNat]).run Tryd.prog w = .ok (.value (.int .i64 (firstIdx sepB x))) w := by
  rw [run_callFunc_extern (fn := Tryd.f17) (e := Extern.BytealgIndexByte.indexByte) Tryd.func17 (by kernel_rfl) (by kernel_rfl) (by kernel_rfl) (by kernel_rfl), run_indexByte_string]
  simp [Result.andThen]
end Go.Proofs.Qxb6600795aDoor
