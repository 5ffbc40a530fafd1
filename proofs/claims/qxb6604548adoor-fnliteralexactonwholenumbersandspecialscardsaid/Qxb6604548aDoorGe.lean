import Derived.Test.Qxb6604548aDoorFf
namespace Go.Proofs.Qxb6604548aDoor
open Go.RowKit

theorem push_each (l : List UInt8) : ∀ (acc : ByteArray), (l.map fun b => (b.toNat : Int)).foldl (fun b n => b.push (UInt8.ofNat n.toNat)) acc = ⟨acc.data ++ l.toArray⟩ := by
  induction l with
  | nil => intro acc; simp
  | cons a l ih =>
    intro acc
    rw [List.map_cons, List.foldl_cons, ih]
    apply ba_eq
    simp [ByteArray.push]
/-- string(buf[j:]). -/
theorem conv_tail {w : World} {c : Array Value} {j : Nat} {l : List UInt8} (hl : ∀ t x, l[t]? = some x → c[j + t]? = some (.int .u8 (x.toNat : Int))) (cap : Nat) : (convert 34 9 (.slice (some ⟨w.heap.size, j, none⟩) l.length cap)).run Tryd.prog (w.alloc (.cells c 33)) = .ok (.string ⟨l.toArray⟩) (w.alloc (.cells c 33)) := by
  rw [run_convert_bytes_string (P := Tryd.prog) _ 34 9 5 _ _ _ Tryd.underlying34 Tryd.underlying5 Tryd.underlying9]
  have hc := run_loadCells_list (P := Tryd.prog) (w.alloc (.cells c 33)) ⟨w.heap.size, j, none⟩ (Lib.byteCells l) (fun t u ht => by
    rw [Addr.add_lit, World.cell?_alloc_new]
    simp only [Lib.byteCells, List.getElem?_map, Option.map_eq_some_iff] at ht
    obtain ⟨x, hx, rfl⟩ := ht
    exact hl t x hx)
  have hb : Lib.byteCells l = (l.map fun b => (b.toNat : Int)).map (Value.int .u8) := by simp [Lib.byteCells]
  rw [Lib.byteCells_length, hb] at hc
  rw [run_bytesToString (P := Tryd.prog) _ ⟨w.heap.size, j, none⟩ l.length cap (l.map fun b => (b.toNat : Int)) hc, push_each]
  simp
theorem slice_tail {w : World} {c : Array Value} {j : Nat} (hj : j < 20) : (Instr.sliceAt 33 (.pointer (some ⟨w.heap.size, 0, none⟩)) (some (.int .i64 (j : Int))) none none).run Tryd.prog (w.alloc (.cells c 33)) = .ok (.slice (some ⟨w.heap.size, j, none⟩) (20 - j) (20 - j)) (w.alloc (.cells c 33)) := by
  have ha : Tryd.prog.arrayLen 33 = 20 := by kernel_rfl
  have he : Tryd.prog.elem 33 = 5 := by kernel_rfl
  have hu : Tryd.prog.underlying 33 = some (.array 20 5) := by kernel_rfl
  rw [run_sliceAt_array_l (P := Tryd.prog) _ 33 _ (by rw [ha, he]; exact hu) .i64 (j : Int) (by omega) (by rw [ha]; omega), he, ha]
  have hne : ¬ 20 = j := by omega
  simp [slicedAt, Int.toNat_natCast, hne, Tryd.sizeOf5, Addr.add]
  exact fun h => h.symm
/-- zzUtoa's loop: v is left, j places are free. -/
def UI (w : World) (u v : Nat) (uv iv : Value) (wr : World) : Prop :=
  ∃ (j : Nat) (c : Array Value) (tail : List UInt8), uv = .int .u64 v ∧ iv = .int .i64 j ∧ wr = w.alloc (.cells c 33) ∧ c.size = 20 ∧ tail.length + j = 20 ∧ v ≤ u ∧ (∀ t x, tail[t]? = some x → c[j + t]? = some (.int .u8 (x.toNat : Int))) ∧ Lib.decDigits u = (if v = 0 then [] else Lib.decDigits v) ++ tail
theorem ui_step {u v j : Nat} {c : Array Value} {tail : List UInt8} (hu : u < 18446744073709551616) (hv : 1 ≤ v) (hvu : v ≤ u) (hc : c.size = 20) (hl : tail.length + j = 20) (ht : ∀ t x, tail[t]? = some x → c[j + t]? = some (.int .u8 (x.toNat : Int))) (hd : Lib.decDigits u = (if v = 0 then [] else Lib.decDigits v) ++ tail) :
    1 ≤ j ∧ (UInt8.ofNat (48 + v % 10) :: tail).length + (j - 1) = 20 ∧ (∀ t x, (UInt8.ofNat (48 + v % 10) :: tail)[t]? = some x → (c.setIfInBounds (j - 1) (.int .u8 (48 + (v % 10 : Nat))))[(j - 1) + t]? = some (.int .u8 (x.toNat : Int))) ∧ Lib.decDigits u = (if v / 10 = 0 then [] else Lib.decDigits (v / 10)) ++ (UInt8.ofNat (48 + v % 10) :: tail) := by
  rw [if_neg (by omega)] at hd
  have hlen := congrArg List.length hd
  rw [List.length_append, Lib.decDigits_length] at hlen
  have h20 := nDig_le (d := u) (by omega) hu
  have hp : 1 ≤ (Lib.decDigits v).length := by
    rw [Lib.decDigits]
    split <;> simp
  have hj : 1 ≤ j := by omega
  refine ⟨hj, by simp; omega, ?_, ?_⟩
  · intro t x hx
    cases t with
    | zero =>
      simp only [List.getElem?_cons_zero, Option.some.injEq] at hx
      subst hx
      rw [Nat.add_zero, Array.getElem?_setIfInBounds, if_pos rfl, if_pos (by omega), UInt8.toNat_ofNat']
      rw [show (48 + v % 10) % 2 ^ 8 = 48 + v % 10 by omega, Int.natCast_add]
      rfl
    | succ t =>
      rw [List.getElem?_cons_succ] at hx
      rw [Array.getElem?_setIfInBounds, if_neg (by omega), show j - 1 + (t + 1) = j + t by omega]
      exact ht t x hx
  · rw [hd]
    by_cases h10 : v < 10
    · rw [Lib.decDigits, dif_pos h10, if_pos (by omega), Nat.mod_eq_of_lt h10]
      rfl
    · rw [Lib.decDigits, dif_neg h10, if_neg (by omega)]
      simp
set_option maxHeartbeats 1000000 in
set_option maxRecDepth 100000 in
theorem utoa_any (u : Nat) (w : World) (hu : u < 18446744073709551616) : Calls Tryd.prog 11 #[.int .u64 u] w fun e w' => e = .returned (.string ⟨(Lib.decDigits u).toArray⟩) ∧ Below w.heap.size w w' := by
  go_enter Tryd.func11, Tryd.ntmps11
  by_cases h0 : u = 0
  · subst h0
    go_wp2
    go_ret
    exact ⟨by rw [show Lib.decDigits 0 = [48] by decide +kernel]; rfl, Below.refl _ _⟩
  · have hz : ((u : Int) == 0) = false := beq_eq_false_iff_ne.2 (by omega)
    go_wp2_with fail
    go_loopg [0, 4] u (fun kk uv iv wr => UI w u kk uv iv wr)
    case atStart => exact ⟨20, _, [], rfl, rfl, rfl, rfl, rfl, Nat.le_refl _, (fun t x h => by simp at h), by simp [h0]⟩
    case round =>
      obtain ⟨j, c, tail, rfl, rfl, rfl, hc, hl, hvu, ht, hd⟩ := hrel
      generalize gk = v at *
      by_cases hv : v = 0
      · subst hv
        have hd' : Lib.decDigits u = tail := by simpa using hd
        have hcv := conv_tail (w := w) (j := j) ht (20 - j)
        rw [show tail.length = 20 - j by omega] at hcv
        have HD : Aside (Lib.decDigits u = tail) := hd'
        clear hd hd' ht hz
        have hpos : 1 ≤ (Lib.decDigits u).length := by
          rw [Lib.decDigits]
          split <;> simp
        have hj : j < 20 := by
          rw [HD.out] at hpos
          omega
        have hsl := slice_tail (w := w) (c := c) hj
        clear hl hpos
        go_wp2
        go_ret
        refine ⟨by rw [HD.out]; rfl, (Below.refl _ _).alloc (Nat.le_refl _) _⟩
      · have hstep := ui_step hu (by omega) hvu hc hl ht hd
        have HS : Aside _ := hstep
        have hj1 : 1 ≤ j := hstep.1
        have hj2 : j ≤ 20 := by omega
        have hv0 : (0 : Int) < (v : Int) := by omega
        obtain ⟨ov, hov⟩ : ∃ ov, c[j - 1]? = some ov := ⟨_, Array.getElem?_eq_getElem (by omega)⟩
        clear hstep hd ht hz hl
        go_wp2_with fail
        go_roundg (v / 10)
        case measure => omega
        case rel =>
          obtain ⟨g1, g2, g3, g4⟩ := HS.out
          exact ⟨j - 1, _, _, by go_num, by go_num, rfl, by simpa using hc, g2, by omega, g3, g4⟩
end Go.Proofs.Qxb6604548aDoor
