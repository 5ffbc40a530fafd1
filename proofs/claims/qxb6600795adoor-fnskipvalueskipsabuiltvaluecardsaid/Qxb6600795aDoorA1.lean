import Derived.Test.Qxb6600795aDoorRows
import Derived.WalkKit
import Derived.WalkSpells
import Derived.WalkLawsBesides
import Derived.Deep.QuietTactic
import Derived.BigQuiet
import Derived.Deep.OwnRows
import Derived.Deep.LoopGhost
import Derived.Deep.CutBlock
import Derived.Deep.DeepCutAuto
import Derived.Lib.SliceRun
import Derived.Lib.AppendStr
namespace Go.Proofs.Qxb6600795aDoor
open Go.RowKit

theorem ret_bool {a b : Bool} (h : a = b) : Ending.returned (.bool a) = .returned (.bool b) := by rw [h]
theorem ret_int {k : IntKind} {a b : Int} (h : a = b) : Ending.returned (.int k a) = .returned (.int k b) := by rw [h]

/-! ### the plain words -/
/-- l: a JSON string's text behind its opening quote, up to its closing one. -/
inductive Bod : List UInt8 → Prop
  | q : Bod [34]
  | esc (c : UInt8) (t : List UInt8) : Bod t → Bod (92 :: c :: t)
  | oth (c : UInt8) (t : List UInt8) : c ≠ 34 → c ≠ 92 → Bod t → Bod (c :: t)
/-- s: a JSON string of at most nine bytes. -/
def Str (s : List UInt8) : Prop := ∃ b, s = 34 :: b ∧ Bod b ∧ b.length ≤ 8
/-- l: what is left of a container at depth d, to its last closer. -/
inductive Fin' : Nat → List UInt8 → Prop
  | oth (d : Nat) (c : UInt8) (t : List UInt8) : c ≠ 34 → c ≠ 123 → c ≠ 91 → c ≠ 125 → c ≠ 93 → Fin' d t → Fin' d (c :: t)
  | opn (d : Nat) (c : UInt8) (t : List UInt8) : (c = 123 ∨ c = 91) → Fin' (d + 1) t → Fin' d (c :: t)
  | cls (d : Nat) (c : UInt8) (t : List UInt8) : (c = 125 ∨ c = 93) → 1 ≤ d → Fin' d t → Fin' (d + 1) (c :: t)
  | last (c : UInt8) : (c = 125 ∨ c = 93) → Fin' 1 [c]
  | str (d : Nat) (b t : List UInt8) : Bod b → Fin' d t → Fin' d (34 :: (b ++ t))
theorem fin_pos {d : Nat} {l : List UInt8} (h : Fin' d l) : 1 ≤ d ∨ ∃ c t, l = c :: t := by
  cases h <;> simp
def scals : List (List UInt8) := [[116, 114, 117, 101], [102, 97, 108, 115, 101], [110, 117, 108, 108], [45, 49, 50, 46, 53, 101, 43, 51], [48]]
def Sc (s : List UInt8) : Prop := s ∈ scals
/-- The value that was built. -/
def ValOK (l : List UInt8) : Prop := Str l ∨ Sc l ∨ ∃ o t, l = o :: t ∧ (o = 123 ∨ o = 91) ∧ Fin' 1 t
/-- The text l so far, k containers open. -/
def BI (k : Nat) (l : List UInt8) : Prop := ∃ o b, l = o :: b ∧ (o = 123 ∨ o = 91) ∧ (if k = 0 then Fin' 1 b else ∀ t, Fin' k t → Fin' 1 (b ++ t))
theorem BI.val {l : List UInt8} (h : BI 0 l) : ValOK l := by
  obtain ⟨o, b, rfl, ho, hb⟩ := h
  exact .inr (.inr ⟨o, b, rfl, ho, by simpa using hb⟩)
theorem bi_start {o : UInt8} (ho : o = 123 ∨ o = 91) : BI 1 [o] := ⟨o, [], rfl, ho, by simp⟩
/-- What may be added at an open depth. -/
theorem BI.add {k : Nat} {l : List UInt8} (h : BI (k + 1) l) (s : List UInt8) (hs : ∀ t, Fin' (k + 1) t → Fin' (k + 1) (s ++ t)) : BI (k + 1) (l ++ s) := by
  obtain ⟨o, b, rfl, ho, hb⟩ := h
  refine ⟨o, b ++ s, rfl, ho, ?_⟩
  simp only [Nat.succ_ne_zero, if_false] at hb ⊢
  intro t ht
  rw [List.append_assoc]
  exact hb _ (hs t ht)
theorem BI.opn {k : Nat} {l : List UInt8} (h : BI (k + 1) l) {c : UInt8} (hc : c = 123 ∨ c = 91) : BI (k + 1 + 1) (l ++ [c]) := by
  obtain ⟨o, b, rfl, ho, hb⟩ := h
  refine ⟨o, b ++ [c], rfl, ho, ?_⟩
  simp only [Nat.succ_ne_zero, if_false] at hb ⊢
  intro t ht
  rw [List.append_assoc]
  exact hb _ (.opn _ c t hc ht)
theorem BI.cls {k : Nat} {l : List UInt8} (h : BI (k + 1) l) {c : UInt8} (hc : c = 93 ∨ c = 125) : BI k (l ++ [c]) := by
  have hc' : c = 125 ∨ c = 93 := hc.symm
  obtain ⟨o, b, rfl, ho, hb⟩ := h
  refine ⟨o, b ++ [c], rfl, ho, ?_⟩
  simp only [Nat.succ_ne_zero, if_false] at hb
  cases k with
  | zero => simpa using hb _ (.last c hc')
  | succ k =>
    simp only [Nat.succ_ne_zero, if_false]
    intro t ht
    rw [List.append_assoc]
    exact hb _ (.cls _ c t hc' (by omega) ht)
theorem BI.str {k : Nat} {l s : List UInt8} (h : BI (k + 1) l) (hs : Str s) : BI (k + 1) (l ++ s) := by
  obtain ⟨b, rfl, hb, _⟩ := hs
  exact h.add _ (fun t ht => .str _ b t hb ht)
theorem BI.byte {k : Nat} {l : List UInt8} (h : BI (k + 1) l) {c : UInt8} (hc : c ≠ 34 ∧ c ≠ 123 ∧ c ≠ 91 ∧ c ≠ 125 ∧ c ≠ 93) : BI (k + 1) (l ++ [c]) :=
  h.add _ (fun t ht => .oth _ c t hc.1 hc.2.1 hc.2.2.1 hc.2.2.2.1 hc.2.2.2.2 ht)
theorem fin_oths {d : Nat} : ∀ (s t : List UInt8), (∀ c ∈ s, c ≠ 34 ∧ c ≠ 123 ∧ c ≠ 91 ∧ c ≠ 125 ∧ c ≠ 93) → Fin' d t → Fin' d (s ++ t)
  | [], _, _, h => h
  | c :: s, t, hs, h => by
    have hc := hs c (by simp)
    exact .oth _ c _ hc.1 hc.2.1 hc.2.2.1 hc.2.2.2.1 hc.2.2.2.2 (fin_oths s t (fun x hx => hs x (by simp [hx])) h)
theorem BI.sc {k : Nat} {l s : List UInt8} (h : BI (k + 1) l) (hs : Sc s) : BI (k + 1) (l ++ s) := by
  refine h.add _ (fun t ht => fin_oths s t ?_ ht)
  simp only [Sc, scals, List.mem_cons, List.not_mem_nil, or_false] at hs
  rcases hs with rfl | rfl | rfl | rfl | rfl <;> decide
theorem Str.len {s : List UInt8} (h : Str s) : s.length ≤ 9 := by
  obtain ⟨b, rfl, _, hb⟩ := h
  simpa using hb
theorem Sc.len {s : List UInt8} (hs : Sc s) : s.length ≤ 8 := by
  simp only [Sc, scals, List.mem_cons, List.not_mem_nil, or_false] at hs
  rcases hs with rfl | rfl | rfl | rfl | rfl <;> decide

/-! ### bytes of the caller's -/
/-- The first n cells behind 'ao' hold the bytes S 0, S 1, .. -/
def Rb (w : World) (ao : Option Addr) (n : Nat) (S : Nat → UInt8) : Prop :=
  ∀ k, k < n → ∃ b off, ao = some ⟨b, off, none⟩ ∧ w.cell? ⟨b, off + k, none⟩ = some (.int .u8 (S k).toNat)
theorem Rb.later {w w' : World} {ao : Option Addr} {n : Nat} {S : Nat → UInt8} (h : Rb w ao n S) (hb : Below w.heap.size w w') : Rb w' ao n S := fun k hk => by
  obtain ⟨b, off, h1, h2⟩ := h k hk
  exact ⟨b, off, h1, cell_later hb h2⟩

/-! ### a row of bytes of the call's own, within its capacity -/
theorem Tryd.info5 : (Tryd.prog.info? 5).map (fun i => (i.zero, i.size, i.bytes)) = some (some (.int .u8 0), 1, 1) := by kernel_rfl
theorem Tryd.info3 : (Tryd.prog.info? 3).map (fun i => (i.zero, i.size, i.bytes)) = some (some (.int .i64 0), 1, 8) := by kernel_rfl
theorem grown_trans {a b c : World} {row : Option Nat} (h : a.grownBy b row) (k : b.grownBy c row) : a.grownBy c row :=
  ⟨k.os.trans h.os, k.tape.trans h.tape, k.output.trans h.output, Nat.le_trans h.size k.size, fun j hj hne => (k.block j (Nat.lt_of_lt_of_le hj h.size) hne).trans (h.block j hj hne)⟩
/-- The slice v: block g's first bytes are l, there is room for cap; since world w only block g has been written. -/
def AO (w : World) (base g cap : Nat) (l : List UInt8) (v : Value) (wr : World) : Prop :=
  v = .slice (some ⟨g, 0, none⟩) l.length cap ∧ wr.ownsRow base 5 1 (.slice (some ⟨g, 0, none⟩) l.length cap) l.length (Lib.byteCells l) ∧ w.grownBy wr (some g)
theorem AO.alloc {w wr : World} {base g cap : Nat} {l : List UInt8} {v : Value} (h : AO w base g cap l v wr) (o : Obj) : AO w base g cap l v (wr.alloc o) :=
  ⟨h.1, h.2.1.alloc o, grown_trans h.2.2 (World.grownBy_alloc wr o _)⟩
theorem AO.trans {w w1 w2 : World} {base g cap : Nat} {l l2 : List UInt8} {v v2 : Value} (h : AO w base g cap l v w1) (k : AO w1 base g cap l2 v2 w2) : AO w base g cap l2 v2 w2 :=
  ⟨k.1, k.2.1, grown_trans h.2.2 k.2.2⟩
theorem AO.here {w wr : World} {base g cap : Nat} {l : List UInt8} {v : Value} (h : AO w base g cap l v wr) : AO wr base g cap l v wr := ⟨h.1, h.2.1, World.grownBy.refl _ _⟩
theorem bytes_one (l : List UInt8) : ∀ u ∈ Lib.byteCells l, u.oneCell' = true := fun u hu => by
  simp only [Lib.byteCells, List.mem_map] at hu
  obtain ⟨b, _, rfl⟩ := hu
  rfl
theorem wpList_ao {w : World} (wx : World) {ops : Array Oper} {rest : List Oper} {o : Oper} {a : Act} {Q : Exit → Act → World → Prop} (hgd : o.guard = none) (s x : Operand)
    (hop : o.op = .call { callee := .builtin .append, args := #[s, x], argTypes := #[22, 22] }) {base g cap : Nat} {l : List UInt8} {v : Value} (hs : a.eval s = v) (h : AO w base g cap l v wx)
    (ao : Option Addr) (m c : Nat) (news : List UInt8) (hm : news.length = m) (hx : a.eval x = .slice ao m c) (hno : ao = none → m = 0 ∧ c = 0) (hnews : ∀ ad, ao = some ad → ∀ j u, (Lib.byteCells news)[j]? = some u → wx.cell? (ad.add j) = some u) (hlen : l.length + news.length ≤ cap)
    (hK : ∀ v' w', AO w base g cap (l ++ news) v' w' → wpList Tryd.prog ops Q rest (a.put o.dst v') w') : wpList Tryd.prog ops Q (o :: rest) a wx := by
  obtain ⟨i, hi, hz0, hz1, hz2⟩ := info_parts Tryd.info5
  subst hm
  obtain ⟨rfl, h1, h2⟩ := h
  refine wpList_append_fits_any wx hgd s x 22 hop base 5 i 1 Tryd.underlying22 hi hz1 g l.length cap (Lib.byteCells l) hs h1 ao news.length c (Lib.byteCells news) hx (by rw [Lib.byteCells_length]; simp) hno hnews (bytes_one _) hlen ?_
  intro w' h3 h4
  exact hK _ w' ⟨by rw [List.length_append], by rw [List.length_append, Lib.byteCells_append]; exact h3, grown_trans h2 h4⟩
theorem cells_lit (w : World) (news : List UInt8) (cs : Array Value) (hcs : cs.toList = Lib.byteCells news) : ∀ ad, some (⟨w.heap.size, 0, none⟩ : Addr) = some ad → ∀ j u, (Lib.byteCells news)[j]? = some u → (w.alloc (.cells cs 5)).cell? (ad.add j) = some u := by
  intro ad had j u hu
  cases had
  rw [← hcs] at hu
  rw [Addr.add_lit, Nat.zero_add, cell_of_row (w.alloc (.cells cs 5)) w.heap.size j cs 5 (0, 0) (heap_alloc_new w _)]
  simpa using hu

/-! ### zzb1AppendString, zzb1AppendScalar -/
def RetA (w : World) (base g cap : Nat) (l : List UInt8) (P : List UInt8 → Prop) (e : Ending) (w' : World) : Prop := ∃ s v, P s ∧ e = .returned v ∧ AO w base g cap (l ++ s) v w'
end Go.Proofs.Qxb6600795aDoor
