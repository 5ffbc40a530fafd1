import Derived.Test.Qxb6604277aDoorA2
import Derived.RegionTactic
namespace Go.Proofs.Qxb6604277aDoor
open Go.RowKit

theorem Tryd.info41 : (Tryd.prog.info? 41).map (fun i => (i.zero, i.size, i.bytes)) = some (some (.agg #[.string ByteArray.empty, .string ByteArray.empty]), 2, 32) := by kernel_rfl
theorem run_make25 (n : Nat) (hn : n ≤ 1048576) (w : World) :
    (Instr.makeSlice 25 (.int .i64 (n : Int)) (.int .i64 (n : Int))).run Tryd.prog w = .ok (.slice (some ⟨w.heap.size, 0, none⟩) n n) (w.alloc (.cells (madeCells #[.string ByteArray.empty, .string ByteArray.empty] (n * 2)) 41)) := by
  obtain ⟨i, hi, hz0, hz1, hz2⟩ := info_parts Tryd.info41
  have hr := run_make (P := Tryd.prog) w 25 41 i (.agg #[.string ByteArray.empty, .string ByteArray.empty]) Tryd.underlying25 hi hz0 .i64 .i64 n n (by omega) (Int.le_refl _) (by rw [hz2]; omega) (by omega)
  simp only [Int.toNat_natCast, hz1] at hr
  exact hr

/-- The cells of the first k parts: text, variable, text, variable, ..; then empty strings. -/
def tf (X V : Nat → ByteArray) (k : Nat) : Nat → Value := fun d => if d < k * 2 then (if d % 2 = 0 then .string (X (d / 2)) else .string (V (d / 2))) else .string ByteArray.empty

structure MT (w : World) (n : Nat) (X V : Nat → ByteArray) (k : Nat) (wr : World) : Prop where
  row : wr.rowIs (w.heap.size + 1) 41 (n * 2) (tf X V k)
  blk : wr.heap[w.heap.size]? = some (.cells #[.slice none 0 0, .int .i64 0] 27 (0, 0))
  bel : Below w.heap.size w wr
  sz : wr.heap.size = w.heap.size + 2

theorem mt_start (w : World) (n : Nat) (X V : Nat → ByteArray) : MT w n X V 0 ((w.alloc (.cells #[.slice none 0 0, .int .i64 0] 27)).alloc (.cells (madeCells #[.string ByteArray.empty, .string ByteArray.empty] (n * 2)) 41)) := by
  refine ⟨?_, ?_, ((Below.refl _ _).alloc (Nat.le_refl _) _).alloc (by simp) _, by simp⟩
  · have h := World.rowIs_alloc (w.alloc (.cells #[.slice none 0 0, .int .i64 0] 27)) (madeCells #[.string ByteArray.empty, .string ByteArray.empty] (n * 2)) 41 (tf X V 0) (fun i hi => ?_)
    · rw [size_madeCells] at h
      simpa using h
    · rw [size_madeCells] at hi
      have : i % 2 = 0 ∨ i % 2 = 1 := by omega
      rcases this with e | e <;> simp [madeCells, hi, tf, e]
  · rw [Below.heap_alloc _ _ _ (by simp)]; exact heap_alloc_new w _

theorem mt_step {w wr : World} {n : Nat} {X V : Nat → ByteArray} {k : Nat} (h : MT w n X V k wr) : MT w n X V (k + 1) ((wr.setCell ⟨w.heap.size + 1, k * 2, none⟩ (.string (X k))).setCell ⟨w.heap.size + 1, k * 2 + 1, none⟩ (.string (V k))) := by
  refine ⟨((h.row.set (k * 2) (.string (X k))).set (k * 2 + 1) (.string (V k))).congr (fun i _ => ?_), ?_, (h.bel.setCell (by simp) _).setCell (by simp) _, by simpa using h.sz⟩
  · by_cases e1 : i = k * 2 + 1
    · subst e1
      have a1 : (k * 2 + 1) % 2 = 1 := by omega
      have a2 : (k * 2 + 1) / 2 = k := by omega
      have a3 : k * 2 + 1 < (k + 1) * 2 := by omega
      simp [tf, a1, a2, a3]
    · by_cases e2 : i = k * 2
      · subst e2
        have a1 : (k * 2) % 2 = 0 := by omega
        have a2 : (k * 2) / 2 = k := by omega
        have a3 : k * 2 < (k + 1) * 2 := by omega
        simp [tf, a2, a3]
      · have a3 : i < (k + 1) * 2 ↔ i < k * 2 := by omega
        simp [tf, e1, e2, a3]
  · rw [Below.heap_setCell _ _ _ _ (by simp), Below.heap_setCell _ _ _ _ (by simp)]; exact h.blk

theorem MT.drewN {w wr : World} {n : Nat} {X V : Nat → ByteArray} {k : Nat} (h : MT w n X V k wr) (m : Nat) : MT w n X V k (wr.drewN m) :=
  ⟨h.row, h.blk, h.bel.trans ⟨rfl, rfl, rfl, Nat.le_refl _, fun _ _ => rfl⟩, h.sz⟩

/-- WHAT ZZMakeTemplate HANDS BACK: the parts' slice in new memory, and the line. -/
def MkT (w : World) (n : Nat) (X V : Nat → ByteArray) (line : Int) (e : Ending) (w' : World) : Prop :=
  ∃ B, e = .returned (.agg #[.slice (some ⟨B, 0, none⟩) n n, .int .i64 line]) ∧ w'.rowIs B 41 (n * 2) (tf X V n) ∧ Below w.heap.size w w'
theorem mkT_mk {w wr : World} {n : Nat} {X V : Nat → ByteArray} {line : Int} {e : Ending} (h : MT w n X V n wr) (u v : Value) (he : e = .returned (.agg #[.slice (some ⟨w.heap.size + 1, 0, none⟩) n n, .int .i64 line])) :
    MkT w n X V line e ((wr.setCell ⟨w.heap.size, 0, none⟩ u).setCell ⟨w.heap.size, 1, none⟩ v) :=
  ⟨_, he, (h.row.setOther (by simp) _).setOther (by simp) _, (h.bel.setCell (by simp) _).setCell (by simp) _⟩

set_option maxHeartbeats 1000000 in
theorem makeTemplate_any (a1 a2 : Option Addr) (n c1 c2 : Nat) (X V : Nat → ByteArray) (line : Int) (w : World) (hn : n ≤ 65536) (h1 : Rd w a1 n X) (h2 : Rd w a2 n V) :
    Calls Tryd.prog 8 #[.slice a1 n c1, .slice a2 n c2, .int .i64 line] w fun e w' => MkT w n X V line e w' := by
  have hmk := run_make25 n (by omega)
  go_enter Tryd.func8, Tryd.ntmps8
  go_wp2_with fail
  clear hmk
  go_loopg [14] n (fun kk ix wr => ∃ k : Nat, kk = n - k ∧ k ≤ n ∧ ix = .int .i64 k ∧ MT w n X V k wr)
  case atStart => exact ⟨0, rfl, Nat.zero_le _, rfl, mt_start w n X V⟩
  case round =>
    obtain ⟨k, rfl, hk, rfl, hM⟩ := hrel
    by_cases hlt : k < n
    · obtain ⟨b1, o1, rfl, hc1⟩ := h1 k hlt
      obtain ⟨b2, o2, rfl, hc2⟩ := h2 k hlt
      have g1 := cell_later hM.bel hc1
      have g2 := cell_later hM.bel hc2
      have d1 := hM.row.cell (i := k * 2) (by omega)
      have d2 := hM.row.cell (i := k * 2 + 1) (by omega)
      have f1 := hM.row.frozen (k * 2)
      have f2 := hM.row.frozen (k * 2 + 1)
      have hlt3 : (k : Int) < (n : Int) := by omega
      have HM : Aside (MT w n X V k wr) := hM
      clear hM hc1 hc2
      go_wp2_with fail
      go_region
      all_goals go_wp2
      all_goals
        go_roundg (n - (k + 1))
        case measure => omega
        case rel => exact ⟨k + 1, rfl, by omega, by go_num, (mt_step HM.out).drewN 1⟩
    · obtain rfl : k = n := by omega
      have b0 : wr.cell? ⟨w.heap.size, 0, none⟩ = some (.slice none 0 0) := by simp [World.cell?, hM.blk]
      have b1 : wr.cell? ⟨w.heap.size, 1, none⟩ = some (.int .i64 0) := by simp [World.cell?, hM.blk]
      have f0 : wr.frozen? ⟨w.heap.size, 0, none⟩ = false := by simp [World.frozen?, hM.blk]
      have f1 : wr.frozen? ⟨w.heap.size, 1, none⟩ = false := by simp [World.frozen?, hM.blk]
      have HM : Aside (MT w k X V k wr) := hM
      clear hM
      go_wp2
      have e0 : ((wr.setCell ⟨w.heap.size, 0, none⟩ (.slice (some ⟨w.heap.size + 1, 0, none⟩) k k)).setCell ⟨w.heap.size, 1, none⟩ (.int .i64 line)).cell? ⟨w.heap.size, 0, none⟩ = some (.slice (some ⟨w.heap.size + 1, 0, none⟩) k k) :=
        (World.cell?_setCell_other _ _ _ _ (by simp)).trans (World.cell?_setCell_same _ _ _ b0)
      have e1 : ((wr.setCell ⟨w.heap.size, 0, none⟩ (.slice (some ⟨w.heap.size + 1, 0, none⟩) k k)).setCell ⟨w.heap.size, 1, none⟩ (.int .i64 line)).cell? ⟨w.heap.size, 1, none⟩ = some (.int .i64 line) :=
        World.cell?_setCell_same _ _ _ ((World.cell?_setCell_other _ _ _ _ (by simp)).trans b1)
      exact bodyPost_ret (v := .agg #[.slice (some ⟨w.heap.size + 1, 0, none⟩) k k, .int .i64 line]) (by simp [results, Tryd.results8, go_sem, e0, e1]) rfl (mkT_mk HM.out _ _ rfl)
end Go.Proofs.Qxb6604277aDoor
