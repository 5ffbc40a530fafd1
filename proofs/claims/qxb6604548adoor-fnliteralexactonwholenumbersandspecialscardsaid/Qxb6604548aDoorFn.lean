import Derived.Test.Qxb6604548aDoorFm
namespace Go.Proofs.Qxb6604548aDoor
open Go.RowKit

theorem format13_any (b : Nat) (TH TL : Nat → Nat) (w : World) (hb : b < 18446744073709551616) (T : Tab TH TL w) (TO : THok TH) (TP : ∀ wx, Below w.heap.size w wx → Lib.TabIs Tryd.prog wx "internal/strconv.uint64pow10" .u64 Lib.pow10Tab) :
    Calls Tryd.prog 13 #[.float .f64 b, .int .u8 103, .int .i64 (-1), .int .i64 64] w fun e w' => RetS w (FT TH TL b) e w' := by
  have HF := format_any b TH TL w hb T TO TP
  clear T TP TO
  go_enter Tryd.func13, Tryd.ntmps13
  go_wp2_with fail
  refine HF.mono ?_
  rintro e w2 ⟨rfl, h2⟩
  have HB2 : Aside (Below w.heap.size w w2) := h2
  clear h2 HF
  go_wp2
  go_ret
  exact ⟨rfl, HB2.out⟩
/-- literal's text. -/
def lit (l : List UInt8) : List UInt8 := if Lib.containsAny l [46, 101] then l else l ++ [46, 48]
set_option maxHeartbeats 1000000 in
theorem literal_any (b : Nat) (TH TL : Nat → Nat) (w : World) (hb : b < 18446744073709551616) (T : Tab TH TL w) (TO : THok TH) (TP : ∀ wx, Below w.heap.size w wx → Lib.TabIs Tryd.prog wx "internal/strconv.uint64pow10" .u64 Lib.pow10Tab)
    (hlen : (FT TH TL b).length ≤ 100) (hasc : ∀ c ∈ FT TH TL b, c.toNat < 128) :
    Calls Tryd.prog 10 #[.float .f64 b] w fun e w' => RetS w (lit (FT TH TL b)) e w' := by
  have HF := format13_any b TH TL w hb T TO TP
  clear T TP TO
  generalize FT TH TL b = l at *
  go_enter Tryd.func10, Tryd.ntmps10
  go_wp2_with fail
  refine HF.mono ?_
  rintro e w2 ⟨rfl, h2⟩
  have HB2 : Aside (Below w.heap.size w w2) := h2
  clear h2 HF
  have hsz : (⟨l.toArray⟩ : ByteArray).size ≤ 100 := by rw [Lib.size_eq]; simpa using hlen
  have HCA := Tryd.strings_ContainsAny_laid ⟨l.toArray⟩ { data := #[46, 101] } w2 (by omega) (by decide) (fun j c hj => hasc c (by have := List.mem_of_getElem? hj; simpa using this)) (fun j c hj => by
    have hm : c ∈ ([46, 101] : List UInt8) := List.mem_of_getElem? hj
    simp only [List.mem_cons, List.not_mem_nil, or_false] at hm
    rcases hm with rfl | rfl <;> decide)
  have HL : Aside (∀ bb : Bool, Lib.containsAny (⟨l.toArray⟩ : ByteArray).data.toList ({ data := #[46, 101] } : ByteArray).data.toList = bb → lit l = if bb then l else l ++ [46, 48]) := fun bb h => by rw [lit, ← h]
  generalize hs : (⟨l.toArray⟩ : ByteArray) = s at *
  have HS : Aside (s.data.toList = l) := by rw [Aside, ← hs]
  clear hs hasc hlen
  go_wp2_with fail
  refine HCA.mono ?_
  rintro e w3 ⟨rfl, h3⟩
  have HB3 : Aside (Below w.heap.size w w3) := HB2.out.trans (h3.mono HB2.out.size)
  clear h3 HCA HB2
  cases hcc : Lib.containsAny s.data.toList ({ data := #[46, 101] } : ByteArray).data.toList with
  | true =>
    have HL2 : Aside (lit l = l) := HL.out true hcc
    clear HL hcc
    go_wp2
    go_ret
    refine ⟨?_, HB3.out⟩
    rw [HL2.out, ← HS.out]
    exact congrArg (fun x => Ending.returned (.string x)) (ba_eq (by simp))
  | false =>
    have HL2 : Aside (lit l = l ++ [46, 48]) := HL.out false hcc
    clear HL hcc
    go_wp2
    go_ret
    refine ⟨?_, HB3.out⟩
    rw [HL2.out, ← HS.out]
    exact congrArg (fun x => Ending.returned (.string x)) (ba_eq (by simp))
end Go.Proofs.Qxb6604548aDoor
