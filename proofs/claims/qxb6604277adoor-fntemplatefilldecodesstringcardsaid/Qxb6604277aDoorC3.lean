import Derived.Test.Qxb6604277aDoorK
import Derived.Test.Qxb6604277aDoorB3
import Derived.WideKeyElems2
namespace Go.Proofs.Qxb6604277aDoor
open Go.ChangeShapes Go.WideShapes Go.ChangeAt Go.RowKit

def strOfH {H : Type} (d : DataW H) : ByteArray := match d with | .lit (.string bs) => ⟨bs.toArray⟩ | _ => ByteArray.empty
def LH {H : Type} (D : DataW H) (k : ByteArray) : ByteArray := strOfH (D.atKey (.string k.data.toList) (.lit (.string [])))
theorem looks_ownH {H : Type} {w : World} {b n : Nat} {D : DataW H} (h : w.ownsMap Tryd.prog 9 (plainElem Tryd.prog 9) b n D) : Looks (.map (some b)) (LH D) w := fun k hk => by
  obtain ⟨v, ps, hrun, hv⟩ := h.lookup law9 Tryd.underlying32 (zero9 w) (plainElem_string (s := ByteArray.empty) Tryd.underlying9 (by simp [maxLen])) (WideMaps.keyOf_string_mk Tryd.underlying9 hk)
  obtain ⟨s, rfl, hz, hs⟩ := plainElem_string_inv Tryd.underlying9 hv
  simp only [Prod.mk.injEq] at hz
  have e : LH D k = s := by
    rw [LH]
    have := hz.1
    rw [show (ByteArray.empty.data.toList : List UInt8) = [] from rfl] at this
    rw [this, strOfH]
  rw [e]
  exact ⟨hrun, hs⟩
theorem own_laterH {H : Type} {w wx : World} {b n : Nat} {D : DataW H} (hx : Below w.heap.size w wx) (h : w.ownsMap Tryd.prog 9 (plainElem Tryd.prog 9) b n D) : wx.ownsMap Tryd.prog 9 (plainElem Tryd.prog 9) b n D := by
  have hlt := h.lt
  obtain ⟨es, clock, hb, F, hs, hD⟩ := h
  exact ⟨es, clock, (hx.block b hlt).trans hb, F, hs, hD⟩
/-- The map of strings that came in, opened. -/
theorem open_map_arg {H : Type} {enc : TypeId × Value → H} {W : World} {am : Option Nat} {d : DataW H} {ps : List MemPlace} (h3 : DataW.Trod enc Tryd.prog W 0 (fun _ => true) true 32 (.map am) d ps) :
    ∃ L : ByteArray → ByteArray, ∀ wx, Below W.heap.size W wx → Looks (.map am) L wx := by
  obtain ⟨fuel, hf⟩ := h3
  rcases WideElems.open_map Tryd.underlying32 hf with ⟨hcs, hx⟩ | ⟨bm, es, clock, mm, rfl, hcs, hb, _, Ft, hx⟩
  · simp [Value.cells] at hcs
    subst hcs
    exact ⟨_, fun wx _ => looks_nil wx⟩
  · simp [Value.cells] at hcs
    subst hcs
    have ho := World.ownsMap_of_fit (R := plainElem Tryd.prog 9) hb Ft (fun x _ z hz => elemAt_plainElem_string Tryd.underlying9 hz)
    exact ⟨_, fun wx hx => looks_ownH (own_laterH hx ho)⟩

def laid3 : List (String × DataW Unit) := Rows.fnTemplateFillDecodesStringRow.laid

set_option maxRecDepth 100000 in
theorem decodes_lifted (os : Os) (started : os.Started) (H : Type) (enc : TypeId × Value → H) :
    ReturnsInHanded {} Tryd.checked os 4 .any (fun w args => (Rows.fnTemplateFillDecodesStringSpec.pre enc Tryd.prog Tryd.f4 [] false w args ∧ laidMetH Tryd.prog laid3 w) ∧ sizedMet enc Tryd.prog Tryd.f4 (OpenSpec.ofChange Rows.fnTemplateFillDecodesStringSpec) false w args)
      (Rows.fnTemplateFillDecodesStringSpec.post enc Tryd.prog Tryd.f4 false true false false) := by
  refine wrap_shaped (C := Tryd.checked) (X := fun w _ => laidMetH Tryd.prog laid3 w) (fun _ _ _ hh h => h.of_heap hh) own started (by kernel_rfl) Tryd.func4
    (ChangeSpec.witness_shaped (enc := enc) (C := Tryd.checked) (os := os) (X := fun w _ => laidMetH Tryd.prog laid3 w) false (World.laidAll Tryd.prog os laid3) #[.slice none 0 0, .slice none 0 0, .int .i64 0, .map none] 8 (World.laidAll_os _ _ _)
      (World.shaped_of_ZipB (by kernel_rfl) (by kernel_rfl)) (by kernel_rfl) (by kernel_rfl) (by kernel_rfl)
      (by rw [MakeChecks.laidMetH_plain _ _ _ (by kernel_rfl)]; exact laidMet_laidAll _ (by kernel_rfl) (by kernel_rfl))) ?_
  intro W base args ds gs before hval0 hW hsh
  have hval : ∀ (j : Nat) t v, Tryd.f4.params[j]? = some t → args[j]? = some v → Value.okWide Tryd.prog W .any base t v := hval0
  have hW' := hW
  obtain ⟨p, q, hA0, hV, rfl, _, _⟩ := hW
  have hA : DataW.TrodAll enc Tryd.prog W 0 (fun _ => true) true Tryd.f4.params.toList args.toList ds p := hA0
  rw [Tryd.params4] at hA hval
  obtain ⟨v0, v1, v2, v3, d0, d1, d2, d3, p0, p1, p2, p3, rfl, rfl, rfl, h0, h1, h2, h3⟩ := trodAll_four hA
  obtain ⟨rfl, rfl⟩ := trodVars_none hV
  obtain ⟨a0, len0, cap0, rfl⟩ := okWide_slice Tryd.underlying22 (hval 0 22 v0 rfl rfl)
  obtain ⟨a1, len1, cap1, rfl⟩ := okWide_slice Tryd.underlying22 (hval 1 22 v1 rfl rfl)
  obtain ⟨am, rfl⟩ := okWide_map Tryd.underlying32 (hval 3 32 v3 rfl rfl)
  have lt3 : ∀ x ∈ p3, x.block < W.heap.size := by obtain ⟨m, hm⟩ := h3; exact DataW.trod_lt m _ _ _ hm
  obtain ⟨L, hL⟩ := open_map_arg h3
  obtain ⟨i, rfl, rfl, rfl, wi⟩ := open_int Tryd.underlying3 (hval 2 3 v2 rfl rfl) h2
  have lt0 : ∀ x ∈ p0, x.block < W.heap.size := by obtain ⟨m, hm⟩ := h0; exact DataW.trod_lt m _ _ _ hm
  have lt1 : ∀ x ∈ p1, x.block < W.heap.size := by obtain ⟨m, hm⟩ := h1; exact DataW.trod_lt m _ _ _ hm
  obtain ⟨X, hl0, hX, hR0⟩ := open_arg h0
  obtain ⟨V, hl1, hVs, hR1⟩ := open_arg h1
  obtain ⟨m, hm⟩ := maxLen_cell hsh
  clear hA0 hval0
  refine (decodes_any a0 a1 len0 len1 cap0 cap1 X V i m am L W hl0 hl1 hX hVs hR0 hR1 hm hL).mono fun e W' ⟨he, bel⟩ => ?_
  subst he
  exact ⟨_, rfl, _, _, _, [], _, [], hW', trodAll_mk1 (shut_bool Tryd.underlying4 _), trodAll_mk4 (Below.trod laidOut (by kernel_rfl) (of_decide_eq_true (by kernel_rfl)) h0 bel lt0) (Below.trod laidOut (by kernel_rfl) (of_decide_eq_true (by kernel_rfl)) h1 bel lt1) (shut_int Tryd.underlying3 wi) (Below.trod laidOut (by kernel_rfl) (of_decide_eq_true (by kernel_rfl)) h3 bel lt3), rfl, bel.frame _, fun h => by cases h⟩

theorem decodes_holds : Rows.FnTemplateFillDecodesStringSaid :=
  OpenClaim.holds_of_wide 4 Tryd.f4 rfl rfl rfl rfl rfl rfl rfl ⟨rfl, rfl, rfl, rfl, rfl⟩ rfl rfl rfl rfl rfl (by kernel_rfl) Tryd.func4 (by kernel_rfl)
    (of_decide_eq_true (by kernel_rfl)) (by unfold Func.isWrapper; first | (rw [if_pos (by decide +kernel)]; kernel_rfl) | (rw [if_neg (by decide +kernel)]; exact ⟨rfl, rfl⟩))
    (fun os started H enc _ => decodes_lifted os started H enc)

theorem decodes_card : Rows.FnTemplateFillDecodesStringCardSaid :=
  Claim7.holds_tied_plain_at .later [] [.data, .pinned] true Rows.fnTemplateFillDecodesStringCard.stood.harness false decodes_holds (fun _ h => by cases h) (by kernel_rfl) (fun _ h => by cases h) fnTemplateFillDecodesString_row_tie rfl ⟨rfl, rfl⟩ (by kernel_rfl) rfl
    (fun f fn hf hfn => by
      obtain rfl : f = 4 := Option.some.inj ((show Tryd.prog.funcNamed Rows.fnTemplateFillDecodesStringRow.func = some 4 by kernel_rfl).symm.trans hf) |>.symm
      obtain rfl : fn = Tryd.f4 := (Option.some.inj (Tryd.func4.symm.trans hfn)).symm
      exact ⟨by kernel_rfl, fun j t ht => by
        rw [Tryd.params4] at ht
        have hm : t ∈ [22, 22, 3, 32] := by simpa using Array.mem_of_getElem? ht
        have hall : ([22, 22, 3, 32].all fun u => !Tryd.prog.wantsStandIn u) = true := by kernel_rfl
        exact (show Tryd.prog.wantsStandIn t = false by simpa using List.all_eq_true.1 hall t hm)⟩)
    (by kernel_rfl)
end Go.Proofs.Qxb6604277aDoor
