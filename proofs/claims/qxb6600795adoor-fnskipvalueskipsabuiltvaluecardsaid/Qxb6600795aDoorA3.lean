import Derived.Test.Qxb6600795aDoorA2
namespace Go.Proofs.Qxb6600795aDoor
open Go.RowKit

theorem grown_any {a b : World} {row : Option Nat} (h : a.grownBy b none) : a.grownBy b row := ⟨h.os, h.tape, h.output, h.size, fun j hj _ => h.block j hj (by simp)⟩
def ctCells (ct : List Nat) : List Value := ct.map fun (c : Nat) => Value.int .i64 ((c : Nat) : Int)
theorem ct_one (l : List Nat) : ∀ u ∈ ctCells l, u.oneCell' = true := fun u hu => by
  simp only [ctCells, List.mem_map] at hu
  obtain ⟨b, _, rfl⟩ := hu
  rfl
/-- THE BUILDER's STATE: the text, kc open closers, kt counts (each at most n), in three rows of the call's own. -/
def BS (w : World) (N g1 g2 g3 n : Nat) (v : Value) (l : List UInt8) (kc kt : Nat) (wr : World) : Prop :=
  (v = .slice (some ⟨g1, 0, none⟩) l.length (20 * N + 16) ∧ wr.ownsRow w.heap.size 5 1 (.slice (some ⟨g1, 0, none⟩) l.length (20 * N + 16)) l.length (Lib.byteCells l)) ∧
  (∃ cl : List UInt8, cl.length = kc ∧ (∀ c ∈ cl, c = 93 ∨ c = 125) ∧ wr.ownsRow w.heap.size 5 1 (.slice (some ⟨g2, 0, none⟩) kc N) kc (Lib.byteCells cl)) ∧
  (∃ ct : List Nat, ct.length = kt ∧ (∀ c ∈ ct, c ≤ n) ∧ wr.ownsRow w.heap.size 3 1 (.slice (some ⟨g3, 0, none⟩) kt N) kt (ctCells ct)) ∧
  (g1 ≠ g2 ∧ g1 ≠ g3 ∧ g2 ≠ g3) ∧ Below w.heap.size w wr
section
variable {w wr : World} {N g1 g2 g3 n : Nat} {v : Value} {l : List UInt8} {kc kt : Nat}
theorem BS.ao (h : BS w N g1 g2 g3 n v l kc kt wr) : AO wr w.heap.size g1 (20 * N + 16) l v wr := ⟨h.1.1, h.1.2, World.grownBy.refl _ _⟩
theorem BS.base1 (h : BS w N g1 g2 g3 n v l kc kt wr) : w.heap.size ≤ g1 := (h.1.2.lt g1 rfl).1
theorem BS.base2 (h : BS w N g1 g2 g3 n v l kc kt wr) : w.heap.size ≤ g2 := by obtain ⟨_, ⟨cl, _, _, h2⟩, _⟩ := h; exact (h2.lt g2 rfl).1
theorem BS.base3 (h : BS w N g1 g2 g3 n v l kc kt wr) : w.heap.size ≤ g3 := by obtain ⟨_, _, ⟨ct, _, _, h2⟩, _⟩ := h; exact (h2.lt g3 rfl).1
theorem BS.bel (h : BS w N g1 g2 g3 n v l kc kt wr) : Below w.heap.size w wr := h.2.2.2.2
theorem BS.out (h : BS w N g1 g2 g3 n v l kc kt wr) {l' : List UInt8} {v' : Value} {w' : World} (ha : AO wr w.heap.size g1 (20 * N + 16) l' v' w') : BS w N g1 g2 g3 n v' l' kc kt w' := by
  have hb1 := h.base1
  obtain ⟨_, ⟨cl, c1, c2, c3⟩, ⟨ct, t1, t2, t3⟩, ⟨d1, d2, d3⟩, hb⟩ := h
  obtain ⟨a1, a2, a3⟩ := ha
  exact ⟨⟨a1, a2⟩, ⟨cl, c1, c2, c3.kept a3 (.inr (by simp [Value.ownBlock]; exact fun e => d1 e.symm))⟩, ⟨ct, t1, t2, t3.kept a3 (.inr (by simp [Value.ownBlock]; exact fun e => d2 e.symm))⟩, ⟨d1, d2, d3⟩,
    hb.grown a3 hb.size (fun k hk => by cases hk; exact hb1)⟩
theorem BS.alloc (h : BS w N g1 g2 g3 n v l kc kt wr) (o : Obj) : BS w N g1 g2 g3 n v l kc kt (wr.alloc o) := h.out (h.ao.alloc o)
theorem BS.more (h : BS w N g1 g2 g3 n v l kc kt wr) {n' : Nat} (hn : n ≤ n') : BS w N g1 g2 g3 n' v l kc kt wr := by
  obtain ⟨h1, h2, ⟨ct, t1, t2, t3⟩, h4⟩ := h
  exact ⟨h1, h2, ⟨ct, t1, fun c hc => Nat.le_trans (t2 c hc) hn, t3⟩, h4⟩
theorem BS.top {t : Nat} (h : BS w N g1 g2 g3 n v l (t + 1) kt wr) : ∃ c : UInt8, (c = 93 ∨ c = 125) ∧ wr.cell? ⟨g2, t, none⟩ = some (.int .u8 c.toNat) := by
  obtain ⟨_, ⟨cl, c1, c2, c3⟩, _⟩ := h
  have ht : t < cl.length := by omega
  refine ⟨cl[t], c2 _ (List.getElem_mem ht), ?_⟩
  rw [c3.cellAt t (by omega)]
  simp [Lib.byteCells, ht]
theorem BS.cnt {t : Nat} (h : BS w N g1 g2 g3 n v l kc (t + 1) wr) : ∃ c : Nat, c ≤ n ∧ wr.cell? ⟨g3, t, none⟩ = some (.int .i64 c) ∧ wr.frozen? ⟨g3, t, none⟩ = false ∧ BS w N g1 g2 g3 (n + 1) v l kc (t + 1) (wr.setCell ⟨g3, t, none⟩ (.int .i64 ((c : Int) + 1))) := by
  have hb3 := h.base3
  obtain ⟨⟨o1, o2⟩, ⟨cl, c1, c2, c3⟩, ⟨ct, t1, t2, t3⟩, ⟨d1, d2, d3⟩, hb⟩ := h
  have ht : t < ct.length := by omega
  obtain ⟨s1, s2⟩ := t3.stored t (.int .i64 ((ct[t] : Int) + 1))
  refine ⟨ct[t], t2 _ (List.getElem_mem ht), ?_, t3.frozenAt t, ⟨o1, o2.kept s2 (.inr (by simpa [Value.ownBlock] using d2))⟩, ⟨cl, c1, c2, c3.kept s2 (.inr (by simpa [Value.ownBlock] using d3))⟩, ⟨ct.set t (ct[t] + 1), by simpa using t1, fun c hc => ?_, ?_⟩, ⟨d1, d2, d3⟩,
    hb.grown s2 hb.size (fun k hk => by cases hk; exact hb3)⟩
  · rw [t3.cellAt t (by omega)]
    simp [ctCells, ht]
  · rcases List.mem_or_eq_of_mem_set hc with hc | rfl
    · exact Nat.le_succ_of_le (t2 c hc)
    · exact Nat.succ_le_succ (t2 _ (List.getElem_mem ht))
  · have e : ctCells (ct.set t (ct[t] + 1)) = (ctCells ct).set t (.int .i64 ((ct[t] : Int) + 1)) := by
      simp [ctCells, List.map_set]
    rw [e]; exact s1
theorem owns_cut {w : World} {base e g n n' cap : Nat} {xs : List Value} (h : w.ownsRow base e 1 (.slice (some ⟨g, 0, none⟩) n cap) n xs) (hn : n' ≤ n) : w.ownsRow base e 1 (.slice (some ⟨g, 0, none⟩) n' cap) n' (xs.take n') := by
  obtain ⟨h0, h1⟩ := h
  rcases h1 with ⟨h', _⟩ | ⟨g', cap', cur, h', hb, hg, hnc, hcm, hcs, htake⟩
  · simp at h'
  · simp only [Value.slice.injEq, Option.some.injEq, Addr.mk.injEq, and_true, true_and] at h'
    obtain ⟨rfl, rfl⟩ := h'
    refine ⟨by simp; omega, .inr ⟨g, cap, cur, rfl, hb, hg, by omega, hcm, hcs, ?_⟩⟩
    rw [← htake, List.take_take, Nat.mul_one, Nat.mul_one, Nat.min_eq_left hn]
theorem BS.popc {kc' : Nat} (h : BS w N g1 g2 g3 n v l kc kt wr) (hk : kc' ≤ kc) : BS w N g1 g2 g3 n v l kc' kt wr := by
  obtain ⟨h1, ⟨cl, c1, c2, c3⟩, h3⟩ := h
  exact ⟨h1, ⟨cl.take kc', by simp; omega, fun c hc => c2 c (List.mem_of_mem_take hc), by have := owns_cut c3 hk; rwa [show (Lib.byteCells cl).take kc' = Lib.byteCells (cl.take kc') by simp [Lib.byteCells]] at this⟩, h3⟩
theorem BS.popt {kt' : Nat} (h : BS w N g1 g2 g3 n v l kc kt wr) (hk : kt' ≤ kt) : BS w N g1 g2 g3 n v l kc kt' wr := by
  obtain ⟨h1, h2, ⟨ct, c1, c2, c3⟩, h3⟩ := h
  exact ⟨h1, h2, ⟨ct.take kt', by simp; omega, fun c hc => c2 c (List.mem_of_mem_take hc), by have := owns_cut c3 hk; rwa [show (ctCells ct).take kt' = ctCells (ct.take kt') by simp [ctCells]] at this⟩, h3⟩
end
/-- closers = append(closers, c) -/
theorem wpList_cl {w : World} (wx : World) {ops : Array Oper} {rest : List Oper} {o : Oper} {a : Act} {Q : Exit → Act → World → Prop} (hgd : o.guard = none) (s x : Operand)
    (hop : o.op = .call { callee := .builtin .append, args := #[s, x], argTypes := #[22, 22] }) {N g1 g2 g3 n : Nat} {v : Value} {l : List UInt8} {kc kt : Nat} (h : BS w N g1 g2 g3 n v l kc kt wx) (hs : a.eval s = .slice (some ⟨g2, 0, none⟩) kc N)
    (ad : Addr) (c : UInt8) (hx : a.eval x = .slice (some ad) 1 1) (hc : c = 93 ∨ c = 125) (hnews : ∀ a, some ad = some a → ∀ j u, (Lib.byteCells [c])[j]? = some u → wx.cell? (a.add j) = some u) (hlen : kc + 1 ≤ N)
    (hK : ∀ w', BS w N g1 g2 g3 n v l (kc + 1) kt w' → wpList Tryd.prog ops Q rest (a.put o.dst (.slice (some ⟨g2, 0, none⟩) (kc + 1) N)) w') : wpList Tryd.prog ops Q (o :: rest) a wx := by
  obtain ⟨i, hi, hz0, hz1, hz2⟩ := info_parts Tryd.info5
  have hb2 := h.base2
  obtain ⟨⟨o1, o2⟩, ⟨cl, c1, c2, c3⟩, ⟨ct, t1, t2, t3⟩, ⟨d1, d2, d3⟩, hb⟩ := h
  refine wpList_append_fits wx hgd s x 22 hop w.heap.size 5 i 1 Tryd.underlying22 hi hz1 g2 kc N (Lib.byteCells cl) hs c3 ad 1 1 (Lib.byteCells [c]) hx rfl (hnews ad rfl) (bytes_one _) hlen ?_
  intro w' h3 h4
  refine hK w' ⟨⟨o1, o2.kept h4 (.inr (by simpa [Value.ownBlock] using d1))⟩, ⟨cl ++ [c], by simp [c1], fun x hx => ?_, by rw [Lib.byteCells_append]; exact h3⟩, ⟨ct, t1, t2, t3.kept h4 (.inr (by simp [Value.ownBlock]; exact fun e => d3 e.symm))⟩, ⟨d1, d2, d3⟩, hb.grown h4 hb.size (fun k hk => by cases hk; exact hb2)⟩
  rcases List.mem_append.1 hx with hx | hx
  · exact c2 x hx
  · simp at hx; rw [hx]; exact hc
/-- counts = append(counts, 0) -/
theorem wpList_ct {w : World} (wx : World) {ops : Array Oper} {rest : List Oper} {o : Oper} {a : Act} {Q : Exit → Act → World → Prop} (hgd : o.guard = none) (s x : Operand)
    (hop : o.op = .call { callee := .builtin .append, args := #[s, x], argTypes := #[31, 31] }) {N g1 g2 g3 n : Nat} {v : Value} {l : List UInt8} {kc kt : Nat} (h : BS w N g1 g2 g3 n v l kc kt wx) (hs : a.eval s = .slice (some ⟨g3, 0, none⟩) kt N)
    (ad : Addr) (hx : a.eval x = .slice (some ad) 1 1) (hnews : ∀ j u, (ctCells [0])[j]? = some u → wx.cell? (ad.add j) = some u) (hlen : kt + 1 ≤ N)
    (hK : ∀ w', BS w N g1 g2 g3 n v l kc (kt + 1) w' → wpList Tryd.prog ops Q rest (a.put o.dst (.slice (some ⟨g3, 0, none⟩) (kt + 1) N)) w') : wpList Tryd.prog ops Q (o :: rest) a wx := by
  obtain ⟨i, hi, hz0, hz1, hz2⟩ := info_parts Tryd.info3
  have hb3 := h.base3
  obtain ⟨⟨o1, o2⟩, ⟨cl, c1, c2, c3⟩, ⟨ct, t1, t2, t3⟩, ⟨d1, d2, d3⟩, hb⟩ := h
  refine wpList_append_fits wx hgd s x 31 hop w.heap.size 3 i 1 Tryd.underlying31 hi hz1 g3 kt N (ctCells ct) hs t3 ad 1 1 (ctCells [0]) hx rfl hnews (ct_one _) hlen ?_
  intro w' h3 h4
  refine hK w' ⟨⟨o1, o2.kept h4 (.inr (by simpa [Value.ownBlock] using d2))⟩, ⟨cl, c1, c2, c3.kept h4 (.inr (by simpa [Value.ownBlock] using d3))⟩, ⟨ct ++ [0], by simp [t1], fun x hx => ?_, by rw [show ctCells (ct ++ [0]) = ctCells ct ++ ctCells [0] by simp [ctCells]]; exact h3⟩, ⟨d1, d2, d3⟩, hb.grown h4 hb.size (fun k hk => by cases hk; exact hb3)⟩
  rcases List.mem_append.1 hx with hx | hx
  · exact t2 x hx
  · simp at hx; omega
theorem cells_ct (w : World) : ∀ j u, (ctCells [0])[j]? = some u → (w.alloc (.cells #[.int .i64 0] 3)).cell? ((⟨w.heap.size, 0, none⟩ : Addr).add j) = some u := cell_one_new w _ _

def RetV (w : World) (N : Nat) (e : Ending) (w' : World) : Prop :=
  ∃ (l : List UInt8) (g : Nat), e = .returned (.slice (some ⟨g, 0, none⟩) l.length (20 * N + 16)) ∧ w'.ownsRow w.heap.size 5 1 (.slice (some ⟨g, 0, none⟩) l.length (20 * N + 16)) l.length (Lib.byteCells l) ∧ ValOK l ∧ l.length ≤ 20 * N + 16 ∧ Below w.heap.size w w'
theorem retV_ao {w w' : World} {N g : Nat} {l : List UInt8} {v : Value} (h : AO w w.heap.size g (20 * N + 16) l v w') (hl : l.length ≤ 20 * N + 16) (hv : ValOK l) (hg : w.heap.size ≤ g) : RetV w N (.returned v) w' :=
  ⟨l, g, by rw [h.1], h.2.1, hv, hl, (Below.refl _ _).grown h.2.2 (Nat.le_refl _) (fun k hk => by cases hk; exact hg)⟩
end Go.Proofs.Qxb6600795aDoor
