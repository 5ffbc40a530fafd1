import Derived.Test.Qxb6604277aDoorA3
namespace Go.Proofs.Qxb6604277aDoor
open Go.RowKit

theorem builder_alloc {T e : TypeId} {B b : Nat} {bs : List Value} {w : World} (h : Lib.IsBuilder T e B b bs w) (o : Obj) : Lib.IsBuilder T e B b bs (w.alloc o) := by
  have key : ∀ p, Lib.BuilderAt T e B b p bs w → Lib.BuilderAt T e B b p bs (w.alloc o) := fun p ⟨hB, v, hb, hown, hne⟩ =>
    ⟨hB, v, by rw [Below.heap_alloc _ _ _ (lt_of_block hb)]; exact hb, hown.alloc o, hne⟩
  exact h.elim (fun h => .inl (key _ h)) (fun h => .inr (key _ h))
theorem builder_later {T e : TypeId} {B b : Nat} {bs : List Value} {w w' : World} (h : Lib.IsBuilder T e B b bs w) (hb' : Below w.heap.size w w') : Lib.IsBuilder T e B b bs w' := by
  have key : ∀ p, Lib.BuilderAt T e B b p bs w → Lib.BuilderAt T e B b p bs w' := fun p ⟨hB, v, hb, hown, hne⟩ => by
    refine ⟨hB, v, by rw [hb'.block _ (lt_of_block hb)]; exact hb, ⟨hown.1, hown.2.elim Or.inl fun ⟨g, cap, cur, h1, h2, h3, h4⟩ => Or.inr ⟨g, cap, cur, h1, h2, ?_, h4⟩⟩, hne⟩
    rw [hb'.block _ (lt_of_block h3)]; exact h3
  exact h.elim (fun h => .inl (key _ h)) (fun h => .inr (key _ h))

/-- IN THE LOOPS OF String AND Fill: 'out' has been written; the builder is block b; wA: the world ahead of the builder. -/
structure WS (wA : World) (b : Nat) (out : List UInt8) (wr : World) : Prop where
  eqb : wA.heap.size = b
  bld : Lib.IsBuilder 44 5 b b (Lib.byteCells out) wr
  bel : Below b wA wr
theorem WS.sz {wA wr : World} {b : Nat} {out : List UInt8} (h : WS wA b out wr) : b ≤ wr.heap.size := by rw [← h.eqb]; exact h.bel.size
theorem ws_start (wA : World) (b : Nat) (hb : wA.heap.size = b) : WS wA b [] (wA.alloc (.cells #[.pointer none, .slice none 0 0] 44)) := by
  subst hb; exact ⟨rfl, Lib.fresh_isBuilder 44 5 wA, (Below.refl _ _).alloc (Nat.le_refl _) _⟩
theorem WS.alloc {wA wr : World} {b : Nat} {out : List UInt8} (h : WS wA b out wr) (o : Obj) : WS wA b out (wr.alloc o) := ⟨h.eqb, builder_alloc h.bld o, h.bel.alloc h.sz o⟩
theorem WS.drewN {wA wr : World} {b : Nat} {out : List UInt8} (h : WS wA b out wr) (m : Nat) : WS wA b out (wr.drewN m) := ⟨h.eqb, h.bld, h.bel.trans ⟨rfl, rfl, rfl, Nat.le_refl _, fun _ _ => rfl⟩⟩
theorem WS.later {wA wr w' : World} {b : Nat} {out : List UInt8} (h : WS wA b out wr) (hb : Below wr.heap.size wr w') : WS wA b out w' := ⟨h.eqb, builder_later h.bld hb, h.bel.trans (hb.mono h.sz)⟩

theorem write_any {wA wr : World} {b : Nat} {out : List UInt8} (h : WS wA b out wr) (s : ByteArray) (hlen : out.length + s.size ≤ 140737488355328) :
    Calls Tryd.prog 17 #[.pointer (some ⟨b, 0, none⟩), .string s] wr fun e w' => e = .returned (.tuple #[.int .i64 s.size, .nilIface]) ∧ WS wA b (out ++ s.data.toList) w' := by
  refine (Tryd.Builder_WriteString b b _ s wr h.bld (by rw [Lib.byteCells_length]; exact hlen) h.sz).mono fun e w' ⟨he, hb, hbel⟩ => ?_
  exact ⟨he, h.eqb, .inr (by rw [Lib.byteCells_append, ← Lib.strCells_eq]; exact hb), h.bel.trans hbel⟩
theorem string_any {wA wr : World} {b : Nat} {out : List UInt8} (h : WS wA b out wr) :
    Calls Tryd.prog 19 #[.pointer (some ⟨b, 0, none⟩)] wr fun e w' => e = .returned (.string ⟨out.toArray⟩) ∧ Below b wA w' :=
  (Tryd.Builder_String_any b b out wr h.bld h.sz).mono fun _ _ ⟨he, hb⟩ => ⟨he, h.bel.trans hb⟩

def RetS (w : World) (l : List UInt8) (e : Ending) (w' : World) : Prop := e = .returned (.string ⟨l.toArray⟩) ∧ Below w.heap.size w w'
theorem dEmpty_iff (s : ByteArray) : s.data.toList.isEmpty = decide (s.size = 0) := by
  have e : s.size = s.data.toList.length := by simp
  rw [e, Bool.eq_iff_iff, List.isEmpty_iff, decide_eq_true_iff, List.length_eq_zero_iff]
theorem empty_eq (s : ByteArray) : s.toList.isEmpty = s.data.toList.isEmpty := by rw [ByteArray.toList_eq]
theorem tf_text (X V : Nat → ByteArray) {n k : Nat} (h : k < n) : tf X V n (k * 2) = .string (X k) := by
  have a1 : (k * 2) % 2 = 0 := by omega
  have a2 : (k * 2) / 2 = k := by omega
  have a3 : k * 2 < n * 2 := by omega
  simp [tf, a2, a3]
theorem tf_var (X V : Nat → ByteArray) {n k : Nat} (h : k < n) : tf X V n (k * 2 + 1) = .string (V k) := by
  have a1 : (k * 2 + 1) % 2 = 1 := by omega
  have a2 : (k * 2 + 1) / 2 = k := by omega
  have a3 : k * 2 + 1 < n * 2 := by omega
  simp [tf, a1, a2, a3]


theorem replace_room (x : ByteArray) (h : x.size ≤ 1048576) : x.size + Lib.countB x ⟨#[36, 36]⟩ * (⟨#[36, 36, 36, 36]⟩ : ByteArray).size ≤ 140737488355328 := by
  have := countB_le x
  have e : (⟨#[36, 36, 36, 36]⟩ : ByteArray).size = 4 := by decide
  rw [e]; omega

set_option maxHeartbeats 1000000 in
theorem String_any (B n : Nat) (X V : Nat → ByteArray) (line m : Int) (w : World) (hn : n ≤ 65536) (hX : ∀ k, k < n → (X k).size ≤ 1048576 ∧ (V k).size ≤ 1048576)
    (hrow : w.rowIs B 41 (n * 2) (tf X V n)) (hm : w.cell? ⟨0, 0, none⟩ = some (.int .i64 m)) :
    Calls Tryd.prog 9 #[.agg #[.slice (some ⟨B, 0, none⟩) n n, .int .i64 line]] w fun e w' => RetS w (so X V n) e w' := by
  have hBlt := hrow.lt
  have HR : Aside (w.rowIs B 41 (n * 2) (tf X V n)) := hrow
  have HX : Aside (∀ k, k < n → (X k).size ≤ 1048576 ∧ (V k).size ≤ 1048576) := hX
  clear hrow hX
  go_enter Tryd.func9, Tryd.ntmps9
  go_wp2_with fail
  generalize hwA : w.alloc (Obj.cells #[Value.slice (some ⟨B, 0, none⟩) n n, Value.int IntKind.i64 line] 27) = wA
  have hA : Below w.heap.size w wA := by rw [← hwA]; exact (Below.refl _ _).alloc (Nat.le_refl _) _
  have hAs : wA.heap.size = w.heap.size + 1 := by rw [← hwA]; simp
  have HWA : Aside (Below w.heap.size w wA ∧ wA.heap.size = w.heap.size + 1) := ⟨hA, hAs⟩
  clear hwA hA hAs
  go_loopg [9] n (fun kk ix wr => ∃ k : Nat, kk = n - k ∧ k ≤ n ∧ ix = .int .i64 k ∧ WS wA (w.heap.size + 1) (so X V k) wr)
  case atStart => exact ⟨0, rfl, Nat.zero_le _, rfl, ws_start wA _ HWA.out.2⟩
  case round =>
    obtain ⟨k, rfl, hk, rfl, hS⟩ := hrel
    have hbw : Below w.heap.size w wr := HWA.out.1.trans (hS.bel.mono (by omega))
    have HS : Aside (WS wA (w.heap.size + 1) (so X V k) wr) := hS
    have HBW : Aside (Below w.heap.size w wr) := hbw
    have hlen := so_len X V 1048576 k (fun j hj => HX.out j (by omega))
    clear hS
    by_cases hlt : k < n
    · have c1 := cell_later hbw (HR.out.cell (i := k * 2) (by omega))
      have c2 := cell_later hbw (HR.out.cell (i := k * 2 + 1) (by omega))
      rw [tf_text X V hlt] at c1
      rw [tf_var X V hlt] at c2
      have hm2 := cell_later hbw hm
      have hlt3 : (k : Int) < (n : Int) := by omega
      have hXk := HX.out k hlt
      clear hbw
      generalize hx : X k = x at *
      generalize hv : V k = v at *
      have HE : Aside (X k = x ∧ V k = v) := ⟨hx, hv⟩
      clear hx hv
      cases hvE : v.toList.isEmpty with
      | false =>
        go_wp2_with fail
        generalize hs2 : ({ data := #[36, 36] } ++ v ++ { data := #[36, 36] } : ByteArray) = s2 at *
        have es : s2.data.toList = [36, 36] ++ (v.data.toList ++ [36, 36]) := by rw [← hs2]; simp
        have ez : s2.size = v.size + 4 := by rw [Lib.size_eq, es, Lib.size_eq v]; simp
        refine (write_any (HS.out.alloc _) s2 (by omega)).mono ?_
        rintro e w' ⟨rfl, hS'⟩
        have HS' : Aside (WS wA (w.heap.size + 1) (so X V (k + 1)) w') := by
          have e2 : so X V (k + 1) = so X V k ++ s2.data.toList := by
            rw [so, HE.out.1, HE.out.2, pOut, if_neg (by rw [← empty_eq, hvE]; simp), es]
          rw [Aside, e2]; exact hS'
        clear hS' es ez hs2 hm2 c1 c2 hXk HE HS
        go_wp2
        go_roundg (n - (k + 1))
        case measure => omega
        case rel => exact ⟨k + 1, rfl, by omega, by go_num, HS'.out⟩
      | true =>
        go_wp2_with fail
        refine (Tryd.strings_ReplaceAll x ⟨#[36, 36]⟩ ⟨#[36, 36, 36, 36]⟩ m _ (by omega) ((World.cell?_alloc_lt _ _ _ (World.block_lt_of_cell? _ _ hm2)).trans hm2) (by decide) (replace_room x hXk.1)).mono ?_
        rintro e w' ⟨rfl, hb⟩
        have hS1 := (HS.out.alloc (Obj.cells #[Value.string x, Value.string v] 41)).later hb
        have er : Lib.replaceAll x.data.toList (⟨#[36, 36]⟩ : ByteArray).data.toList (⟨#[36, 36, 36, 36]⟩ : ByteArray).data.toList = esc x.data.toList := replaceAll_eq _
        rw [er]
        have hel := esc_len x.data.toList
        rw [← Lib.size_eq] at hel
        have e2 : so X V (k + 1) = so X V k ++ esc x.data.toList := by
          rw [so, HE.out.1, HE.out.2, pOut, if_pos (by rw [← empty_eq, hvE])]
        generalize hs2 : (⟨(esc x.data.toList).toArray⟩ : ByteArray) = s2 at *
        have es : s2.data.toList = esc x.data.toList := by rw [← hs2]
        have ez : s2.size = (esc x.data.toList).length := by rw [Lib.size_eq, es]
        have HE2 : Aside (so X V (k + 1) = so X V k ++ s2.data.toList) := by rw [Aside, e2, es]
        have hz2 : s2.size ≤ 2097152 := by omega
        have HS1 : Aside (WS wA (w.heap.size + 1) (so X V k) w') := hS1
        clear er e2 es ez hs2 hel hS1 hb HS hm2 c1 c2
        go_wp2_with fail
        refine (write_any HS1.out s2 (by omega)).mono ?_
        rintro e w2 ⟨rfl, hS'⟩
        rw [← HE2.out] at hS'
        have HS' : Aside (WS wA (w.heap.size + 1) (so X V (k + 1)) w2) := hS'
        clear hS' HS1 HE2
        go_wp2
        go_roundg (n - (k + 1))
        case measure => omega
        case rel => exact ⟨k + 1, rfl, by omega, by go_num, HS'.out⟩
    · obtain rfl : k = n := by omega
      clear hbw
      go_wp2_with (go_at_call 19; refine (string_any HS.out).mono ?_; rintro e w' ⟨rfl, hb⟩)
      go_ret
      exact ⟨rfl, HWA.out.1.trans (hb.mono (by omega))⟩
end Go.Proofs.Qxb6604277aDoor
