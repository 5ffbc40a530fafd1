import Derived.Test.Qxb6604548aDoorGa
import Derived.Lib.LaidU8
import Derived.Lib.AppendIntMem
import Derived.Shelf.Unicode.PredsPay
namespace Go.Proofs.Qxb6604548aDoor
open Go.RowKit

theorem Tryd.u92 : Tryd.prog.underlying 92 = some (.array 696 91) := by kernel_rfl
theorem Tryd.c91 : Tryd.prog.cellsOf 91 = 2 := by kernel_rfl
theorem Tryd.c92 : Tryd.prog.cellsOf 92 = 1392 := by kernel_rfl
theorem Tryd.c29 : Tryd.prog.cellsOf 29 = 1 := by kernel_rfl
theorem Tryd.c83 : Tryd.prog.cellsOf 83 = 20 := by kernel_rfl
theorem Tryd.u83 : Tryd.prog.underlying 83 = some (.array 20 29) := by kernel_rfl
theorem Tryd.u29 : Tryd.prog.underlying 29 = some (.int .u64) := by kernel_rfl
noncomputable def fs91 : Array Field := match Tryd.prog.underlying 91 with | some (.struct fs) => fs | _ => #[]
theorem Tryd.u91 : Tryd.prog.underlying 91 = some (.struct fs91) := by kernel_rfl
theorem fs91_map : fs91.map (fun f => (f.type, f.offset)) = #[(29, 0), (29, 1)] := by kernel_rfl
theorem fs91_size : fs91.size = 2 := by have := congrArg Array.size fs91_map; simpa using this
theorem fs91_at (i : Nat) (f : Field) (h : fs91[i]? = some f) : Tryd.prog.underlying f.type = some (.int .u64) ∧ f.offset = i ∧ Tryd.prog.cellsOf f.type = 1 := by
  have h1 : (fs91.map (fun f => (f.type, f.offset)))[i]? = some (f.type, f.offset) := by rw [Array.getElem?_map, h]; rfl
  rw [fs91_map] at h1
  have hi : i < 2 := by
    rw [← fs91_size]
    exact (Array.getElem?_eq_some_iff.1 h).1
  have hi2 : i = 0 ∨ i = 1 := by omega
  rcases hi2 with rfl | rfl
  · obtain ⟨e1, e2⟩ := Prod.mk.inj (Option.some.inj h1)
    rw [← e1]
    exact ⟨Tryd.u29, e2.symm, Tryd.c29⟩
  · obtain ⟨e1, e2⟩ := Prod.mk.inj (Option.some.inj h1)
    rw [← e1]
    exact ⟨Tryd.u29, e2.symm, Tryd.c29⟩
theorem pair_cells {H : Type} {enc : TypeId × Value → H} {w : World} {base : Nat} {sp : Nat → Bool} {held : Bool} {fuel : Nat} {cs : List Value} {rows : List (Nat × Nat)} {p : List MemPlace}
    (h : DataW.trod enc Tryd.prog w base sp held fuel 92 cs = some (.agg (rows.map fun x => .agg [.lit (.int .u64 x.1), .lit (.int .u64 x.2)]), p)) :
    ∀ k x, rows[k]? = some x → cs[k * 2]? = some (.int .u64 x.1) ∧ cs[k * 2 + 1]? = some (.int .u64 x.2) := by
  cases fuel with
  | zero => simp [DataW.trod] at h
  | succ fuel =>
    simp only [DataW.trod, Tryd.u92, Tryd.c91, Tryd.c92] at h
    split at h
    · obtain ⟨xs, hm, hx⟩ := Option.map_eq_some_iff.1 h
      have hxs : xs.map (·.1) = rows.map fun x => (DataW.agg [.lit (.int .u64 x.1), .lit (.int .u64 x.2)] : DataW H) := by
        have := congrArg Prod.fst hx
        simpa using this
      have hxl : xs.length = 696 := by simpa using Lib.mapM_length hm
      intro k x hk
      have hkl : k < 696 := by
        have h1 := congrArg List.length hxs
        simp only [List.length_map] at h1
        have h2 := (List.getElem?_eq_some_iff.1 hk).1
        omega
      obtain ⟨b, hb, hf⟩ := Lib.mapM_at hm k k (by simp [hkl])
      have h2 : (xs.map (·.1))[k]? = some b.1 := by simp [hb]
      rw [hxs, List.getElem?_map, hk] at h2
      have h3 : b.1 = .agg ([(x.1 : Int), (x.2 : Int)].map fun z => .lit (.int .u64 z)) := (Option.some.inj h2).symm
      have h4 := Lib.ints_of_struct (zs := [(x.1 : Int), (x.2 : Int)]) (p := b.2) Tryd.u91 fs91_at (by rw [Tryd.c91, fs91_size]) (by rw [hf, ← h3])
      constructor
      · have := congrArg (·[0]?) h4
        simpa [List.getElem?_take, List.getElem?_drop] using this
      · have := congrArg (·[1]?) h4
        simpa [List.getElem?_take, List.getElem?_drop] using this
    · cases h
theorem tab_of {W : World} (h : Lib.VarReads Tryd.prog W "internal/strconv.pow10Tab" Go.Pinned.pow10Tab) : Tab TH0 TL0 W := by
  obtain ⟨g, t, cs, fuel, p, hg, ht, hv, hd⟩ := h
  obtain rfl : g = 3 := (Option.some.inj ((show Tryd.prog.globalNamed "internal/strconv.pow10Tab" = some 3 by kernel_rfl).symm.trans hg)).symm
  obtain rfl : t = 92 := (Option.some.inj ((show (Tryd.prog.globals[3]?).map (·.type) = some 92 by kernel_rfl).symm.trans ht)).symm
  intro k hk
  obtain ⟨x, h1, h2, h3, h4, h5, h6⟩ := rows_at hk
  have := pair_cells hd k x h1
  rw [← h2, ← h3]
  refine ⟨?_, ?_, h5, h6⟩
  · rw [World.var?_cell hg hv]
    simpa using this.1
  · rw [World.var?_cell hg hv]
    simpa using this.2
theorem pow_of {W : World} (h : Lib.VarReads Tryd.prog W "internal/strconv.uint64pow10" (Lib.tabData .u64 Lib.pow10Tab)) : Lib.TabIs Tryd.prog W "internal/strconv.uint64pow10" .u64 Lib.pow10Tab := by
  obtain ⟨g, t, cs, fuel, p, hg, ht, hv, hd⟩ := h
  obtain rfl : g = 1 := (Option.some.inj ((show Tryd.prog.globalNamed "internal/strconv.uint64pow10" = some 1 by kernel_rfl).symm.trans hg)).symm
  obtain rfl : t = 83 := (Option.some.inj ((show (Tryd.prog.globals[1]?).map (·.type) = some 83 by kernel_rfl).symm.trans ht)).symm
  unfold Lib.TabIs
  rw [hv, ← Lib.cells_of_tab Tryd.u83 Tryd.u29 Tryd.c29 Tryd.c83 hd]
end Go.Proofs.Qxb6604548aDoor
