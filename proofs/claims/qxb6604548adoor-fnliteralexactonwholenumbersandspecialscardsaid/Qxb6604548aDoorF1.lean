import Derived.Test.Qxb6604548aDoorShelf
import Derived.Test.Qxb6604548aDoorRows
import Derived.WalkKit
import Derived.WalkSpells
import Derived.WalkLawsBesides
import Derived.Deep.QuietTactic
import Derived.BigQuiet
import Derived.Deep.OwnRows
import Derived.Deep.LoopGhost
import Derived.Deep.CutBlock
import Derived.Deep.DeepCutAuto
import Derived.Lib.SliceRun
import Derived.Lib.AppendStr
import Derived.ArgAppend
import Derived.Laws.BytesString
import Derived.Laws.Externs
namespace Go.Proofs.Qxb6604548aDoor
open Go.RowKit

theorem ret_bool {a b : Bool} (h : a = b) : Ending.returned (.bool a) = .returned (.bool b) := by rw [h]
theorem ret_int {k : IntKind} {a b : Int} (h : a = b) : Ending.returned (.int k a) = .returned (.int k b) := by rw [h]
theorem ba_eq {a b : ByteArray} (h : a.data.toList = b.data.toList) : a = b := by
  cases a with | mk a => cases b with | mk b => simp at h; rw [h]

theorem Tryd.info5 : (Tryd.prog.info? 5).map (fun i => (i.zero, i.size, i.bytes)) = some (some (.int .u8 0), 1, 1) := by kernel_rfl
theorem grown_trans {a b c : World} {row : Option Nat} (h : a.grownBy b row) (k : b.grownBy c row) : a.grownBy c row :=
  ⟨k.os.trans h.os, k.tape.trans h.tape, k.output.trans h.output, Nat.le_trans h.size k.size, fun j hj hne => (k.block j (Nat.lt_of_lt_of_le hj h.size) hne).trans (h.block j hj hne)⟩
theorem grown_any {a b : World} {row : Option Nat} (h : a.grownBy b none) : a.grownBy b row := ⟨h.os, h.tape, h.output, h.size, fun j hj _ => h.block j hj (by simp)⟩
theorem grown_far {a b c : World} {g0 g : Nat} (h : a.grownBy b (some g0)) (k : b.grownBy c (some g)) (hg : g = g0 ∨ a.heap.size ≤ g) : a.grownBy c (some g0) :=
  ⟨k.os.trans h.os, k.tape.trans h.tape, k.output.trans h.output, Nat.le_trans h.size k.size, fun j hj hne => (k.block j (Nat.lt_of_lt_of_le hj h.size) (fun e => by
    cases e
    rcases hg with rfl | hg
    · exact hne rfl
    · omega)).trans (h.block j hj hne)⟩
/-- THE TEXT l IN A ROW OF THE CALL's OWN: in block g0, or in a block made since w; of w's blocks only g0 has been written. -/
def OG (w : World) (g0 : Nat) (l : List UInt8) (v : Value) (wr : World) : Prop :=
  (∃ g cap, v = .slice (some ⟨g, 0, none⟩) l.length cap ∧ wr.ownsRow 0 5 1 (.slice (some ⟨g, 0, none⟩) l.length cap) l.length (Lib.byteCells l) ∧ (g = g0 ∨ w.heap.size ≤ g)) ∧ w.grownBy wr (some g0)
theorem OG.alloc {w wr : World} {g0 : Nat} {l : List UInt8} {v : Value} (h : OG w g0 l v wr) (o : Obj) : OG w g0 l v (wr.alloc o) := by
  obtain ⟨⟨g, cap, h1, h2, h3⟩, h4⟩ := h
  exact ⟨⟨g, cap, h1, h2.alloc o, h3⟩, grown_trans h4 (World.grownBy_alloc wr o _)⟩
theorem OG.cell {w wr : World} {g0 : Nat} {l : List UInt8} {v : Value} (h : OG w g0 l v wr) {a : Addr} {u : Value} (hc : w.cell? a = some u) (hne : a.block ≠ g0) : wr.cell? a = some u := h.2.cell hc (by simpa using hne)
theorem bytes_one (l : List UInt8) : ∀ u ∈ Lib.byteCells l, u.oneCell' = true := fun u hu => by
  simp only [Lib.byteCells, List.mem_map] at hu
  obtain ⟨b, _, rfl⟩ := hu
  rfl
theorem wpList_og {w : World} (wx : World) {ops : Array Oper} {rest : List Oper} {o : Oper} {a : Act} {Q : Exit → Act → World → Prop} (hgd : o.guard = none) (s x : Operand)
    (hop : o.op = .call { callee := .builtin .append, args := #[s, x], argTypes := #[34, 34] }) {g0 : Nat} {l : List UInt8} {v : Value} (hs : a.eval s = v) (h : OG w g0 l v wx)
    (ad : Addr) (m c : Nat) (news : List UInt8) (hm : news.length = m) (hx : a.eval x = .slice (some ad) m c) (hnews : ∀ j u, (Lib.byteCells news)[j]? = some u → wx.cell? (ad.add j) = some u) (hpos : 0 < m) (hlen : l.length + news.length ≤ 140737488355328)
    (hK : ∀ v' w', OG w g0 (l ++ news) v' w' → wpList Tryd.prog ops Q rest (a.put o.dst v') w') : wpList Tryd.prog ops Q (o :: rest) a wx := by
  obtain ⟨i, hi, hz0, hz1, hz2⟩ := info_parts Tryd.info5
  subst hm
  obtain ⟨⟨g, cap, rfl, h1, h2⟩, h3⟩ := h
  by_cases hfit : l.length + news.length ≤ cap
  · refine wpList_append_fits wx hgd s x 34 hop 0 5 i 1 Tryd.underlying34 hi hz1 g l.length cap (Lib.byteCells l) hs h1 ad news.length c (Lib.byteCells news) hx (by rw [Lib.byteCells_length]; simp) hnews (bytes_one _) hfit ?_
    intro w' h4 h5
    exact hK _ w' ⟨⟨g, cap, by rw [List.length_append], by rw [List.length_append, Lib.byteCells_append]; exact h4, h2⟩, grown_far h3 h5 h2⟩
  · refine wpList_append_grows wx hgd s x 34 hop 5 i (.int .u8 0) 1 1 Tryd.underlying34 hi hz0 hz1 hz2 rfl (by decide) (some ⟨g, 0, none⟩) l.length cap (Lib.byteCells l) hs (fun h => by cases h) (by rw [Lib.byteCells_length]; simp) (fun b hb j u hu => by cases hb; exact h1.cells rfl j u hu)
      ad news.length c (Lib.byteCells news) hx (by rw [Lib.byteCells_length]; simp) hnews (bytes_one _) (by omega) (by unfold maxLen; omega) (by omega) ?_
    intro v' w' h4 h5
    rcases h4.2 with ⟨_, hz⟩ | ⟨g', cap', cur, rfl, hb, hr⟩
    · omega
    · refine hK _ w' ⟨⟨g', cap', by rw [List.length_append], ?_, .inr (Nat.le_trans h3.size hb)⟩, grown_trans h3 (grown_any h5)⟩
      rw [List.length_append, Lib.byteCells_append]
      exact ⟨h4.1, .inr ⟨g', cap', cur, rfl, Nat.zero_le _, hr⟩⟩
theorem cells_lit (w : World) (news : List UInt8) (cs : Array Value) (hcs : cs.toList = Lib.byteCells news) : ∀ j u, (Lib.byteCells news)[j]? = some u → (w.alloc (.cells cs 5)).cell? ((⟨w.heap.size, 0, none⟩ : Addr).add j) = some u := by
  intro j u hu
  rw [← hcs] at hu
  rw [Addr.add_lit, Nat.zero_add, cell_of_row (w.alloc (.cells cs 5)) w.heap.size j cs 5 (0, 0) (heap_alloc_new w _)]
  simpa using hu

/-! ### the plain text -/
def isDig (c : UInt8) : Prop := 48 ≤ c.toNat ∧ c.toNat ≤ 57
def dg (n : Nat) : UInt8 := UInt8.ofNat (48 + n)
/-- two or three digits -/
def exp2 (n : Nat) : List UInt8 := if n < 10 then [48, dg n] else if n < 100 then [dg (n / 10), dg (n % 10)] else [dg (n / 100), dg (n / 10 % 10), dg (n % 10)]
def mant (D : List UInt8) : List UInt8 := match D with | [] => [48] | [d] => [d] | d :: t => d :: 46 :: t
def eTxt (D : List UInt8) (x : Int) : List UInt8 :=
  mant D ++ [101] ++ (if x < 0 then [45] else [43]) ++ exp2 x.natAbs
def fTxt (D : List UInt8) (dp : Int) : List UInt8 :=
  (if 0 < dp then D.take dp.toNat ++ List.replicate (dp.toNat - D.length) 48 else [48]) ++
  (if dp < D.length then 46 :: (List.replicate (-dp).toNat 48 ++ D.drop dp.toNat) else [])
/-- strconv's 'g', shortest: the digits D with the point behind dp of them. -/
def gTxt (D : List UInt8) (dp : Int) : List UInt8 :=
  if dp - 1 < -4 ∨ 6 ≤ dp - 1 then eTxt D (if D = [] then 0 else dp - 1) else fTxt D dp
def sgn (neg : Bool) : List UInt8 := if neg then [45] else []
end Go.Proofs.Qxb6604548aDoor
