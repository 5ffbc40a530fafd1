import Derived.Test.Qxb6604277aDoorD2
import Derived.Test.Qxb6604277aDoorB2
namespace Go.Proofs.Qxb6604277aDoor
open Go.RowKit

set_option maxHeartbeats 2000000 in
set_option maxRecDepth 100000 in
theorem decodes_any (a1 a2 : Option Addr) (n1 n2 c1 c2 : Nat) (X V : Nat → ByteArray) (line m : Int) (mo : Option Nat) (L : ByteArray → ByteArray) (w : World) (hn1 : n1 ≤ maxLen) (hn2 : n2 ≤ maxLen) (hS1 : ∀ k, k < n1 → (X k).size ≤ maxLen) (hS2 : ∀ k, k < n2 → (V k).size ≤ maxLen)
    (hr1 : Rd w a1 n1 X) (hr2 : Rd w a2 n2 V) (hm : w.cell? ⟨0, 0, none⟩ = some (.int .i64 m)) (hL : ∀ wx, Below w.heap.size w wx → Looks (.map mo) L wx) :
    Calls Tryd.prog 4 #[.slice a1 n1 c1, .slice a2 n2 c2, .int .i64 line, .map mo] w fun e w' => RT w e w' := by
  have HR1 : Aside (Rd w a1 n1 X) := hr1
  have HR2 : Aside (Rd w a2 n2 V) := hr2
  have HM : Aside (w.cell? ⟨0, 0, none⟩ = some (.int .i64 m)) := hm
  have HL : Aside (∀ wx, Below w.heap.size w wx → Looks (.map mo) L wx) := hL
  have HB1 := stringsBytes_any a1 n1 c1 X w hn1 hS1 hr1
  have HB2 := stringsBytes_any a2 n2 c2 V w hn2 hS2 hr2
  have HVB := valuesBytes_any a2 n2 c2 V mo L w hn2 hS2 hr2 (hL w (Below.refl _ _))
  clear hr1 hr2 hS1 hS2 hm hL
  unfold maxLen at hn1 hn2
  go_enter Tryd.func4, Tryd.ntmps4
  go_wp2_with fail
  refine HB1.mono ?_
  rintro e w' ⟨r1, rfl, hq1, hq2, hq3, hw⟩
  have hw2 := hw.symm
  subst hw2
  clear hw HB1
  have HQ1 : Aside (r1 ≤ 1048576 → n1 ≤ 65536 ∧ ∀ k, k < n1 → (X k).size ≤ 1048576) := hq3
  clear hq3
  go_wp2_with fail
  refine HB2.mono ?_
  rintro e w' ⟨r2, rfl, hq4, hq5, hq6, hw⟩
  have hw2 := hw.symm
  subst hw2
  clear hw HB2
  have HQ2 : Aside (r2 ≤ 1048576 → n2 ≤ 65536 ∧ ∀ k, k < n2 → (V k).size ≤ 1048576) := hq6
  clear hq6
  by_cases hbig : 1048576 < r1 + r2
  · go_wp2
    go_ret
    exact ⟨rfl, Below.refl _ _⟩
  obtain ⟨hn1', hX⟩ := HQ1.out (by omega)
  obtain ⟨hn2', hV⟩ := HQ2.out (by omega)
  have HXV : Aside ((∀ k, k < n1 → (X k).size ≤ 1048576) ∧ ∀ k, k < n2 → (V k).size ≤ 1048576) := ⟨hX, hV⟩
  clear HQ1 HQ2 hX hV
  go_wp2_with fail
  refine HVB.mono ?_
  rintro e w' ⟨r3, rfl, hq7, hq8, hq9, hw⟩
  have hw2 := hw.symm
  subst hw2
  clear hw HVB
  have HQ3 : Aside (r3 ≤ 1048576 → ∀ k, k < n2 → (V k).toList.isEmpty = false → (L (V k)).size ≤ 1048576) := hq9
  clear hq9
  by_cases hbig2 : 1048576 < r3
  · go_wp2
    go_ret
    exact ⟨rfl, Below.refl _ _⟩
  have HLS : Aside (∀ k, k < n2 → (V k).toList.isEmpty = false → (L (V k)).size ≤ 1048576) := HQ3.out (by omega)
  clear HQ3
  by_cases hne : n1 = n2
  · subst hne
    go_wp2_with fail
    refine (decodable_any a1 a2 n1 c1 c2 X V w hn1' HXV.out.1 HXV.out.2 HR1.out HR2.out).mono ?_
    rintro e w' ⟨b, rfl, hb, hw⟩
    have hw2 := hw.symm
    subst hw2
    have HDc : Aside (b = true → DecOK X V n1 n1) := hb
    clear hb hw
    cases b with
    | false =>
      go_wp2
      go_ret
      exact ⟨rfl, Below.refl _ _⟩
    | true =>
      have HDec : Aside (Dec L (so X V n1) (fo X V L n1)) := dec_so X V L n1 (HDc.out rfl)
      clear HDc
      go_wp2_with fail
      refine (makeTemplate_any a1 a2 n1 c1 c2 X V line w hn1' HR1.out HR2.out).mono ?_
      rintro e w3 ⟨B, rfl, hrow, hb3⟩
      have HROW : Aside (w3.rowIs B 41 (n1 * 2) (tf X V n1)) := hrow
      have HB3 : Aside (Below w.heap.size w w3) := hb3
      clear hrow hb3
      go_wp2_with fail
      generalize hW : w3.alloc (Obj.cells #[Value.slice (some { block := B, off := 0 }) n1 n1, Value.int IntKind.i64 line] 27) = W
      have hbW : Below w.heap.size w W := by rw [← hW]; exact HB3.out.alloc HB3.out.size _
      have hrW : W.rowIs B 41 (n1 * 2) (tf X V n1) := by rw [← hW]; exact HROW.out.alloc _
      have HCE : Aside (∀ wx, Below W.heap.size W wx → wx.cell? ⟨w3.heap.size, 0, none⟩ = some (.slice (some ⟨B, 0, none⟩) n1 n1) ∧ wx.cell? ⟨w3.heap.size, 1, none⟩ = some (.int .i64 line)) := fun wx hx =>
        ⟨cell_later hx (by rw [← hW]; exact cell_two_new _ _ _ _ 0 _ rfl), cell_later hx (by rw [← hW]; exact cell_two_new _ _ _ _ 1 _ rfl)⟩
      have HBW : Aside (Below w.heap.size w W) := hbW
      have HRW : Aside (W.rowIs B 41 (n1 * 2) (tf X V n1)) := hrW
      clear hW hbW hrW HROW HB3
      refine (Fill_any B n1 X V _ mo rfl L line W hn1' (fun j hj => ⟨by have := HXV.out.1 j hj; omega, fun hne => by have := HLS.out j hj hne; omega⟩) (fun j hj => by have := HXV.out.2 j hj; unfold maxLen; omega) HRW.out (fun wy hy => HL.out _ (HBW.out.trans (hy.mono HBW.out.size)))).mono ?_
      rintro e w4 ⟨rfl, hb4⟩
      obtain ⟨q3, q4⟩ := HCE.out _ hb4
      have HB4 : Aside (Below W.heap.size W w4) := hb4
      clear hb4
      go_wp2_with fail
      refine (String_any B n1 X V line m w4 hn1' (fun j hj => ⟨HXV.out.1 j hj, HXV.out.2 j hj⟩) (row_later HB4.out HRW.out) (cell_later HB4.out (cell_later HBW.out HM.out))).mono ?_
      rintro e w5 ⟨rfl, hb5⟩
      have hbw5 : Below w.heap.size w w5 := HBW.out.trans ((HB4.out.trans (hb5.mono HB4.out.size)).mono HBW.out.size)
      have HB5 : Aside (Below w.heap.size w w5) := hbw5
      clear hb5 hbw5
      go_wp2_with fail
      have hsl := so_len X V 1048576 n1 (fun j hj => ⟨HXV.out.1 j hj, HXV.out.2 j hj⟩)
      have hfl := fo_len X V L 1048576 n1 (fun j hj => ⟨HXV.out.1 j hj, HLS.out j hj⟩)
      refine (decode_any ⟨(so X V n1).toArray⟩ mo L (fo X V L n1) w5 (by rw [Lib.size_eq]; simp; omega) (by omega) (by simpa using HDec.out) (fun wx hx => HL.out _ (HB5.out.trans (hx.mono HB5.out.size)))).mono ?_
      rintro e w6 ⟨rfl, hb6⟩
      have HB6 : Aside (Below w.heap.size w w6) := HB5.out.trans (hb6.mono HB5.out.size)
      clear hb6 hsl hfl HDec
      go_wp2
      go_ret
      exact ⟨ret_bool (by simp), HB6.out⟩
  · have hne' : ((n1 : Int) != (n2 : Int)) = true := by simp [bne]; omega
    go_wp2
    go_ret
    exact ⟨rfl, Below.refl _ _⟩
end Go.Proofs.Qxb6604277aDoor
