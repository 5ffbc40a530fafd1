import Derived.Test.Qxb6604548aDoorFl
namespace Go.Proofs.Qxb6604548aDoor
open Go.RowKit

theorem push_all : ∀ (ns : List UInt8) (s : ByteArray), ((ns.map fun b => (b.toNat : Int)).foldl (fun r n => r.push (UInt8.ofNat n.toNat)) s) = ⟨(s.data.toList ++ ns).toArray⟩
  | [], s => by apply ba_eq; simp
  | b :: t, s => by
    rw [List.map_cons, List.foldl_cons, push_all t]
    apply ba_eq
    simp [ByteArray.push]
theorem run_conv_og {w wx : World} {g0 : Nat} {l : List UInt8} {v : Value} (h : OG w g0 l v wx) : (convert 34 9 v).run Tryd.prog wx = .ok (.string ⟨l.toArray⟩) wx := by
  obtain ⟨⟨g, cap, rfl, h0, _⟩, _⟩ := h
  rw [run_convert_bytes_string (P := Tryd.prog) wx 34 9 5 _ _ _ Tryd.underlying34 Tryd.underlying5 Tryd.underlying9]
  have hl := run_loadCells_list (P := Tryd.prog) wx ⟨g, 0, none⟩ (Lib.byteCells l) (fun j u hj => h0.cells rfl j u hj)
  have hb : Lib.byteCells l = (l.map fun b => (b.toNat : Int)).map (Value.int .u8) := by simp [Lib.byteCells]
  rw [Lib.byteCells_length, hb] at hl
  rw [run_bytesToString (P := Tryd.prog) wx ⟨g, 0, none⟩ l.length cap (l.map fun b => (b.toNat : Int)) hl, push_all]
  rfl
def RetS (w : World) (l : List UInt8) (e : Ending) (w' : World) : Prop := e = .returned (.string ⟨l.toArray⟩) ∧ Below w.heap.size w w'
set_option maxHeartbeats 1000000 in
set_option maxRecDepth 100000 in
theorem format_any (b : Nat) (TH TL : Nat → Nat) (w : World) (hb : b < 18446744073709551616) (T : Tab TH TL w) (TO : THok TH) (TP : ∀ wx, Below w.heap.size w wx → Lib.TabIs Tryd.prog wx "internal/strconv.uint64pow10" .u64 Lib.pow10Tab) :
    Calls Tryd.prog 15 #[.float .f64 b, .int .u8 103, .int .i64 (-1), .int .i64 64] w fun e w' => RetS w (FT TH TL b) e w' := by
  obtain ⟨i5, hi5, hz50, hz51, hz52⟩ := info_parts Tryd.info5
  have HT : Aside (Tab TH TL w) := T
  have HTP : Aside (∀ wx, Below w.heap.size w wx → Lib.TabIs Tryd.prog wx "internal/strconv.uint64pow10" .u64 Lib.pow10Tab) := TP
  clear T TP
  have hmax : max (3 : Int) 24 = 24 := by decide
  go_enter Tryd.func15, Tryd.ntmps15
  go_wp2_with (at_make; refine wpList_make_own _ rfl _ _ 34 rfl 0 5 i5 (.int .u8 0) 1 Tryd.underlying34 hi5 hz50 hz51 _ _ _ 24 rfl rfl (by omega) (by rw [hz52]; omega) (by unfold maxLen; omega) (Nat.zero_le _) ?_; intro w1 h1 h2; have H1 : Aside (w1.ownsRow 0 5 1 (.slice (some ⟨w.heap.size, 0, none⟩) 0 24) 0 [] ∧ w.grownBy w1 none) := ⟨h1, h2⟩; clear h1 h2)
  have hb1 : Below w.heap.size w w1 := (Below.refl _ _).grown H1.out.2 (Nat.le_refl _) (fun k hk => by cases hk)
  have HB1 : Aside (Below w.heap.size w w1) := hb1
  clear hb1
  refine (ftoa_any w.heap.size b TH TL w1 hb (HT.out.later HB1.out) TO (fun wx hx => HTP.out wx (HB1.out.trans (hx.mono HB1.out.size))) (H1.out.1.lt _ rfl).2 H1.out.1).mono ?_
  rintro e w2 ⟨v2, rfl, h2⟩
  have hcv := run_conv_og h2
  have HB2 : Aside (Below w.heap.size w w2) := HB1.out.grown h2.2 HB1.out.size (fun k hk => by cases hk; exact Nat.le_refl _)
  clear h2
  go_wp2
  go_ret
  exact ⟨rfl, HB2.out⟩
end Go.Proofs.Qxb6604548aDoor
