import Derived.Test.Qxb6604188aDoorA6
import Derived.ArgAppend
namespace Go.Proofs.Qxb6604188aDoor
open Go.RowKit

theorem ownsRow_mono {w : World} {base base' : Nat} {e : TypeId} {size : Nat} {v : Value} {n : Nat} {xs : List Value} (h : w.ownsRow base e size v n xs) (hb : base' ≤ base) : w.ownsRow base' e size v n xs :=
  ⟨h.1, h.2.elim Or.inl fun ⟨g, cap, cur, h1, h2, h3⟩ => Or.inr ⟨g, cap, cur, h1, Nat.le_trans hb h2, h3⟩⟩

/-- The old cells at 'ao' (a full slice: length and capacity n). -/
def Olds (w : World) (ao : Option Addr) (n : Nat) (olds : List Value) : Prop :=
  olds.length = n ∧ (ao = none → n = 0) ∧ ∀ a, ao = some a → ∀ j u, olds[j]? = some u → w.cell? (a.add j) = some u

/-- A slice value that was full at first, 'ks' appended since: still the first value, or a row of the call's own from block 'base' on. -/
def Cur (w : World) (base : Nat) (ao : Option Addr) (n : Nat) (olds : List Value) (v : Value) (ks : List Value) : Prop :=
  (ks = [] ∧ v = .slice ao n n) ∨ (ks ≠ [] ∧ w.ownsRow base 9 1 v (n + ks.length) (olds ++ ks))

theorem Cur.start (w : World) (base : Nat) (ao : Option Addr) (n : Nat) (olds : List Value) : Cur w base ao n olds (.slice ao n n) [] := .inl ⟨rfl, rfl⟩
theorem Cur.alloc {w : World} {base : Nat} {ao : Option Addr} {n : Nat} {olds : List Value} {v : Value} {ks : List Value} (h : Cur w base ao n olds v ks) (o : Obj) : Cur (w.alloc o) base ao n olds v ks :=
  h.elim Or.inl fun ⟨h1, h2⟩ => Or.inr ⟨h1, h2.alloc o⟩
theorem Cur.setCell {w : World} {base : Nat} {ao : Option Addr} {n : Nat} {olds : List Value} {v : Value} {ks : List Value} (h : Cur w base ao n olds v ks) {a : Addr} (ha : a.block < base) (u : Value) : Cur (w.setCell a u) base ao n olds v ks :=
  h.elim Or.inl fun ⟨h1, h2⟩ => Or.inr ⟨h1, ownsRow_setCell_below h2 ha u⟩
theorem Cur.drewN {w : World} {base : Nat} {ao : Option Addr} {n : Nat} {olds : List Value} {v : Value} {ks : List Value} (h : Cur w base ao n olds v ks) (m : Nat) : Cur (w.drewN m) base ao n olds v ks := h

theorem Cur.shape {w : World} {base : Nat} {ao : Option Addr} {n : Nat} {olds : List Value} {v : Value} {ks : List Value} (h : Cur w base ao n olds v ks) : ∃ a c, v = .slice a (n + ks.length) c := by
  rcases h with ⟨rfl, rfl⟩ | ⟨_, _, h⟩
  · exact ⟨ao, n, by simp⟩
  · rcases h with ⟨rfl, h⟩ | ⟨g, cap, cur, rfl, _⟩
    · exact ⟨none, 0, by rw [h]⟩
    · exact ⟨_, cap, rfl⟩

theorem Olds.alloc {w : World} {ao : Option Addr} {n : Nat} {olds : List Value} (h : Olds w ao n olds) (o : Obj) : Olds (w.alloc o) ao n olds :=
  ⟨h.1, h.2.1, fun a ha j u hj => cell_later ((Below.refl _ _).alloc (Nat.le_refl _) o) (h.2.2 a ha j u hj)⟩

theorem run_append_cur {w : World} {base : Nat} {ao : Option Addr} {n : Nat} {olds : List Value} {v : Value} {ks : List Value} (h : Cur w base ao n olds v ks) (ho : Olds w ao n olds) (ty : TypeId)
    (ad : Addr) (c : Nat) (x : Value) (hx : ∀ j u, [x][j]? = some u → w.cell? (ad.add j) = some u) (h1 : x.oneCell' = true) (hb : n + ks.length + 1 ≤ 16777216) (hbase : base ≤ w.heap.size) :
    ∃ v' w', (Builtin.append_ #[22, 22] ty #[v, .slice (some ad) 1 c]).run Tryd.prog w = .ok v' w' ∧ Cur w' base ao n olds v' (ks ++ [x]) ∧ Below base w w' := by
  obtain ⟨i, hi, hz0, hz1, hz2⟩ := info_parts Tryd.info9
  have hx1 : ∀ u ∈ [x], u.oneCell' = true := fun u hu => by simp at hu; subst hu; exact h1
  have h63 : n + ks.length + 1 ≤ maxLen := by unfold maxLen; omega
  obtain ⟨ho1, ho2, ho3⟩ := ho
  rcases h with ⟨rfl, rfl⟩ | ⟨hk, hown⟩
  · simp only [List.length_nil, Nat.add_zero] at hb h63
    cases ao with
    | none =>
      obtain rfl := ho2 rfl
      obtain rfl : olds = [] := List.eq_nil_of_length_eq_zero ho1
      obtain ⟨v', w', hrun, r1, r2, _⟩ := run_append_own (P := Tryd.prog) w base 22 ty 9 i (.string ByteArray.empty) 1 16 Tryd.underlying22 hi hz0 hz1 hz2 rfl (by decide) (.slice none 0 0) 0 [] (World.ownsRow_nil w _ 9 1) ad 1 c [x] rfl hx hx1 (by simpa using h63) (by omega) hbase
      exact ⟨v', w', hrun, .inr ⟨by simp, by simpa using r1⟩, (Below.refl _ _).grown r2 hbase (fun k hk => by simp [Value.ownBlock] at hk)⟩
    | some a' =>
      obtain ⟨v', w', hrun, r1, r2⟩ := run_append_arg_grows (P := Tryd.prog) w 22 ty 9 i (.string ByteArray.empty) 1 16 Tryd.underlying22 hi hz0 hz1 hz2 rfl (by decide) a' n n olds (by simpa using ho1) (ho3 a' rfl) ad 1 c [x] rfl hx (by omega) h63 (by omega)
      exact ⟨v', w', hrun, .inr ⟨by simp, by simpa using ownsRow_mono r1 hbase⟩, (Below.refl _ _).grown r2 hbase (fun k hk => by simp at hk)⟩
  · obtain ⟨v', w', hrun, r1, r2, _⟩ := run_append_own (P := Tryd.prog) w base 22 ty 9 i (.string ByteArray.empty) 1 16 Tryd.underlying22 hi hz0 hz1 hz2 rfl (by decide) v (n + ks.length) (olds ++ ks) hown ad 1 c [x] rfl hx hx1 h63 (by omega) hbase
    refine ⟨v', w', hrun, .inr ⟨by simp, by simpa [List.append_assoc, Nat.add_assoc] using r1⟩, (Below.refl _ _).grown r2 hbase (fun k hk => (hown.lt k hk).1)⟩

theorem wpList_append_cur (w : World) {ops : Array Oper} {rest : List Oper} {o : Oper} {a : Act} {Q : Exit → Act → World → Prop} (hgd : o.guard = none) (s x : Operand)
    (hop : o.op = .call { callee := .builtin .append, args := #[s, x], argTypes := #[22, 22] })
    {base : Nat} {ao : Option Addr} {n : Nat} {olds : List Value} {v : Value} {ks : List Value} (hs : a.eval s = v) (h : Cur w base ao n olds v ks) (ho : Olds w ao n olds)
    (ad : Addr) (c : Nat) (u : Value) (hx : a.eval x = .slice (some ad) 1 c) (hnew : ∀ j u', [u][j]? = some u' → w.cell? (ad.add j) = some u') (h1 : u.oneCell' = true) (hb : n + ks.length + 1 ≤ 16777216) (hbase : base ≤ w.heap.size)
    (hK : ∀ v' w', Cur w' base ao n olds v' (ks ++ [u]) → Below base w w' → wpList Tryd.prog ops Q rest (a.put o.dst v') w') : wpList Tryd.prog ops Q (o :: rest) a w := by
  refine wpList_plain hgd fun K hK' => ?_
  obtain ⟨v', w', hrun, r1, r2⟩ := run_append_cur h ho o.type ad c u hnew h1 hb hbase
  unfold Oper.wp
  simp [execOp, hop, resolve, invoke, builtin, hs, hx, hrun, Result.andThen]
  exact hK' _ _ (hK v' w' r1 r2)
end Go.Proofs.Qxb6604188aDoor
