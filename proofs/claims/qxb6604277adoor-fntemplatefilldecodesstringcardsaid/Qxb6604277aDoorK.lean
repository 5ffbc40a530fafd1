import Derived.Test.Qxb6604277aDoorB1
import Derived.Test.Qxb6604277aDoorCards
import Derived.Test.Qxb6604277aDoorTie
import Derived.ProofKit
import Derived.Lay
import Derived.SevenTiedAt
import Derived.Shelf.Vars
namespace Go.Proofs.Qxb6604277aDoor
open Go.ChangeShapes Go.WideShapes Go.ChangeAt Go.RowKit

theorem own : ownKnob Tryd.prog.godebug = none := by kernel_rfl
theorem laidOut : laidOutB Tryd.prog = true := by kernel_rfl
theorem Tryd.cells9 : Tryd.prog.cellsOf 9 = 1 := by kernel_rfl

/-- The wrap for a row that lists variables, the world's shape kept. -/
theorem wrap_shaped {H : Type} {enc : TypeId × Value → H} {a : Assume} {C : Checked} {os : Os} {f : FuncId} {fn : Func} {s : ChangeSpec} {conds : List PathCond} {apart fresh handsOn again : Bool} {X : World → Array Value → Prop}
    (hX : ∀ (w w' : World) (args : Array Value), w.heap = w'.heap → X w args → X w' args)
    (own : ownKnob C.prog.godebug = none) (started : os.Started) (noInit : C.prog.inits.idxOf? f = none) (hfn : C.prog.funcs[f]? = some fn)
    (witness : ∃ (w : World) (tape : Tape) (i : Input), w.os = os ∧ (w.forCall tape i).Shaped C.prog ∧ i.vars = [] ∧ Input.okWide C.prog (w.forCall tape i) .any w.heap.size f i ∧
      ((s.pre enc C.prog fn conds apart (w.forCall tape i).memory i.args ∧ X (w.forCall tape i).memory i.args) ∧ sizedMet enc C.prog fn (OpenSpec.ofChange s) apart (w.forCall tape i).memory i.args) ∧ a.holds C.prog (lone (Frame.enter C.prog f i.args .normal) [] (w.forCall tape i)))
    (contract : ∀ (W : World) (base : Nat) (args : Array Value) (ds gs : List (DataW H)) (before : List MemPlace),
      (∀ (j : Nat) t v, fn.params[j]? = some t → args[j]? = some v → Value.okWide C.prog W .any base t v) →
      DataW.Whole enc C.prog fn.params.toList s.vars apart W args.toList ds gs before →
      W.ShapedOpen C.prog →
      Calls C.prog f args W fun e W' => ∃ v, e = .returned v ∧ s.post enc C.prog fn apart fresh handsOn again W args v W') :
    ReturnsInHanded a C os f .any (fun w args => (s.pre enc C.prog fn conds apart w args ∧ X w args) ∧ sizedMet enc C.prog fn (OpenSpec.ofChange s) apart w args) (s.post enc C.prog fn apart fresh handsOn again) := by
  have _ := hX
  refine returnsInHanded_of_calls own started noInit witness ?_
  intro w tape i _ hsh _ hok hpre _
  obtain ⟨_, _, _, fn', hfn', _, _, _, _, hval⟩ := hok
  have e : fn' = fn := Option.some.inj (hfn'.symm.trans hfn)
  subst e
  obtain ⟨⟨⟨ds, gs, before, hw, _⟩, _⟩, _⟩ := hpre
  have hw' := DataW.Whole.of_heap (w' := w.forCall tape i) (by rfl) hw
  refine (contract (w.forCall tape i) w.heap.size i.args ds gs before hval hw' hsh).mono fun e W' ⟨v, he, hp⟩ => ?_
  subst he
  exact ChangeSpec.post_blind hp

/-- The library's variable internal bytealg.MaxLen holds some int. -/
theorem maxLen_cell {W : World} (h : W.ShapedOpen Tryd.prog) : ∃ m, W.cell? ⟨0, 0, none⟩ = some (.int .i64 m) :=
  cell_of_shapedOpen_int (P := Tryd.prog) (g := 0) (t := 3) (zero := #[.int .i64 0]) h (of_decide_eq_true (by kernel_rfl)) (by kernel_rfl) rfl (by kernel_rfl) (by kernel_rfl) Tryd.underlying3

theorem rd_of_strings {W : World} {a : Addr} {len : Nat} {ss : List ByteArray} (hl : len ≤ ss.length) (hcell : ∀ i, i < ss.length → W.cell? (a.add i) = some (.string (ss.getD i ByteArray.empty))) :
    Rd W (some a) len (fun k => ss.getD k ByteArray.empty) := fun k hk => by
  have h := hcell k (by omega)
  have h00 := hcell 0 (by omega)
  obtain ⟨b, off, spot⟩ := a
  have hspot : spot = none := by simpa [Addr.add] using World.cell?_spot h00
  subst hspot
  refine ⟨b, off, rfl, ?_⟩
  rw [← Addr.add_lit]
  exact h
theorem getD_at {α : Type} {l : List α} {i : Nat} (d : α) (h : i < l.length) : l.getD i d = l[i] := by
  rw [List.getD_eq_getElem?_getD, List.getElem?_eq_getElem h]; rfl

/-- A slice of strings that came in, opened. -/
theorem open_arg {H : Type} {enc : TypeId × Value → H} {W : World} {a0 : Option Addr} {len cap : Nat} {d : DataW H} {ps : List MemPlace} (h0 : DataW.Trod enc Tryd.prog W 0 (fun _ => true) true 22 (.slice a0 len cap) d ps) :
    ∃ S : Nat → ByteArray, len ≤ maxLen ∧ (∀ k, k < len → (S k).size ≤ maxLen) ∧ Rd W a0 len S := by
  obtain ⟨fuel, hf⟩ := h0
  rcases open_strings Tryd.underlying22 Tryd.underlying9 Tryd.cells9 hf with ⟨hcs, _⟩ | ⟨a, len', cap', ss, hcs, _, hl, hm, hz, _, hcell, hws⟩
  · simp [Value.cells] at hcs
    obtain ⟨rfl, rfl, rfl⟩ := hcs
    exact ⟨fun _ => ByteArray.empty, by simp [maxLen], fun k hk => absurd hk (by omega), fun k hk => absurd hk (by omega)⟩
  · simp [Value.cells] at hcs
    obtain ⟨rfl, rfl, rfl⟩ := hcs
    simp only [if_true] at hz
    refine ⟨fun k => ss.getD k ByteArray.empty, by omega, fun k hk => ?_, rd_of_strings (by omega) hcell⟩
    show (ss.getD k ByteArray.empty).size ≤ maxLen
    rw [getD_at _ (by omega)]
    exact hws _ (List.getElem_mem _)
end Go.Proofs.Qxb6604277aDoor
