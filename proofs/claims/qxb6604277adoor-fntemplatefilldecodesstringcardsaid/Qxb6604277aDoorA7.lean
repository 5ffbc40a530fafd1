import Derived.Test.Qxb6604277aDoorA6
import Derived.Maps.OwnSet
import Derived.Maps.StringElems
namespace Go.Proofs.Qxb6604277aDoor
open Go.RowKit
open Go.Maps (Keyed string_keyed)

/-! ### look-ups -/
/-- What the map value mv gives, whatever later world is asked. -/
def Looks (mv : Value) (L : ByteArray → ByteArray) (w : World) : Prop := ∀ k : ByteArray, k.size ≤ maxLen → (Instr.lookup 32 mv (.string k) false).run Tryd.prog w = .ok (.string (L k)) w ∧ (L k).size ≤ maxLen
theorem law9 : Keyed Tryd.prog 9 := string_keyed Tryd.underlying9
theorem zero9 (w : World) : (zeroValue 9).run Tryd.prog w = .ok (.string ByteArray.empty) w := by kernel_rfl
/-- The string at a key of a datum. -/
def strOfD (d : DataW Unit) : ByteArray := match d with | .lit (.string bs) => ⟨bs.toArray⟩ | _ => ByteArray.empty
def LD (D : DataW Unit) (k : ByteArray) : ByteArray := strOfD (D.atKey (.string k.data.toList) (.lit (.string [])))
theorem looks_own {w : World} {b n : Nat} {D : DataW Unit} (h : w.ownsMap Tryd.prog 9 (plainElem Tryd.prog 9) b n D) : Looks (.map (some b)) (LD D) w := fun k hk => by
  obtain ⟨v, ps, hrun, hv⟩ := h.lookup law9 Tryd.underlying32 (zero9 w) (plainElem_string (s := ByteArray.empty) Tryd.underlying9 (by simp [maxLen])) (WideMaps.keyOf_string_mk Tryd.underlying9 hk)
  obtain ⟨s, rfl, hz, hs⟩ := plainElem_string_inv Tryd.underlying9 hv
  simp only [Prod.mk.injEq] at hz
  have e : LD D k = s := by
    rw [LD]
    have := hz.1
    rw [show (ByteArray.empty.data.toList : List UInt8) = [] from rfl] at this
    rw [this, strOfD]
  rw [e]
  exact ⟨hrun, hs⟩
theorem looks_nil (w : World) : Looks (.map none) (fun _ => ByteArray.empty) w := fun k hk =>
  ⟨Maps.look_nil (P := Tryd.prog) (w := w) false law9 Tryd.underlying32 (zero9 w) (WideMaps.keyOf_string_mk Tryd.underlying9 hk), by simp [maxLen]⟩

/-! ### Fill -/
def pFill (x v lv : List UInt8) : List UInt8 := if v.isEmpty then x else lv
def fo (X V : Nat → ByteArray) (L : ByteArray → ByteArray) : Nat → List UInt8
  | 0 => []
  | k + 1 => fo X V L k ++ pFill (X k).data.toList (V k).data.toList (L (V k)).data.toList
theorem fo_len (X V : Nat → ByteArray) (L : ByteArray → ByteArray) (M : Nat) : ∀ k, (∀ j, j < k → (X j).size ≤ M ∧ ((V j).toList.isEmpty = false → (L (V j)).size ≤ M)) → (fo X V L k).length ≤ k * M
  | 0, _ => by simp [fo]
  | k + 1, h => by
    have ih := fo_len X V L M k (fun j hj => h j (by omega))
    have hk := h k (by omega)
    rw [fo, List.length_append, Nat.add_mul, pFill]
    split
    · rw [← Lib.size_eq]; omega
    · next hne =>
      have := hk.2 (by rw [empty_eq]; simpa using hne)
      rw [← Lib.size_eq]; omega

set_option maxHeartbeats 1000000 in
theorem Fill_any (B n : Nat) (X V : Nat → ByteArray) (mv : Value) (mo : Option Nat) (hmv : mv = .map mo) (L : ByteArray → ByteArray) (line : Int) (w : World) (hn : n ≤ 65536) (hX : ∀ k, k < n → (X k).size ≤ 2097152 ∧ ((V k).toList.isEmpty = false → (L (V k)).size ≤ 2097152)) (hVm : ∀ k, k < n → (V k).size ≤ maxLen)
    (hrow : w.rowIs B 41 (n * 2) (tf X V n)) (hL : ∀ wx, Below w.heap.size w wx → Looks mv L wx) :
    Calls Tryd.prog 13 #[.agg #[.slice (some ⟨B, 0, none⟩) n n, .int .i64 line], mv] w fun e w' => RetS w (fo X V L n) e w' := by
  subst hmv
  have hBlt := hrow.lt
  have HR : Aside (w.rowIs B 41 (n * 2) (tf X V n)) := hrow
  have HX : Aside (∀ k, k < n → (X k).size ≤ 2097152 ∧ ((V k).toList.isEmpty = false → (L (V k)).size ≤ 2097152)) := hX
  have HVm : Aside (∀ k, k < n → (V k).size ≤ maxLen) := hVm
  have HL : Aside (∀ wx, Below w.heap.size w wx → Looks (.map mo) L wx) := hL
  clear hrow hX hVm hL
  go_enter Tryd.func13, Tryd.ntmps13
  go_wp2_with fail
  generalize hwA : w.alloc (Obj.cells #[Value.slice (some ⟨B, 0, none⟩) n n, Value.int IntKind.i64 line] 27) = wA
  have hA : Below w.heap.size w wA := by rw [← hwA]; exact (Below.refl _ _).alloc (Nat.le_refl _) _
  have hAs : wA.heap.size = w.heap.size + 1 := by rw [← hwA]; simp
  have HWA : Aside (Below w.heap.size w wA ∧ wA.heap.size = w.heap.size + 1) := ⟨hA, hAs⟩
  clear hwA hA hAs
  go_loopg [11] n (fun kk ix wr => ∃ k : Nat, kk = n - k ∧ k ≤ n ∧ ix = .int .i64 k ∧ WS wA (w.heap.size + 1) (fo X V L k) wr)
  case atStart => exact ⟨0, rfl, Nat.zero_le _, rfl, ws_start wA _ HWA.out.2⟩
  case round =>
    obtain ⟨k, rfl, hk, rfl, hS⟩ := hrel
    have hbw : Below w.heap.size w wr := HWA.out.1.trans (hS.bel.mono (by omega))
    have HS : Aside (WS wA (w.heap.size + 1) (fo X V L k) wr) := hS
    have hlen := fo_len X V L 2097152 k (fun j hj => HX.out j (by omega))
    clear hS
    by_cases hlt : k < n
    · have c1 := cell_later hbw (HR.out.cell (i := k * 2) (by omega))
      have c2 := cell_later hbw (HR.out.cell (i := k * 2 + 1) (by omega))
      rw [tf_text X V hlt] at c1
      rw [tf_var X V hlt] at c2
      have hlt3 : (k : Int) < (n : Int) := by omega
      have hXk := HX.out k hlt
      have hlk := HL.out (wr.alloc (.cells #[.string (X k), .string (V k)] 41)) (hbw.alloc hbw.size _) (V k) (HVm.out k hlt)
      clear hbw
      generalize hx : X k = x at *
      generalize hv : V k = v at *
      have HE : Aside (X k = x ∧ V k = v) := ⟨hx, hv⟩
      clear hx hv
      cases hvE : v.toList.isEmpty with
      | false =>
        have hlr := hlk.1
        have hls := hXk.2 hvE
        generalize hlv : L v = lv at *
        have HLV : Aside (L v = lv) := hlv
        clear hlv hlk
        go_wp2_with fail
        refine (write_any (HS.out.alloc _) lv (by omega)).mono ?_
        rintro e w' ⟨rfl, hS'⟩
        have HS' : Aside (WS wA (w.heap.size + 1) (fo X V L (k + 1)) w') := by
          have e2 : fo X V L (k + 1) = fo X V L k ++ lv.data.toList := by
            rw [fo, HE.out.1, HE.out.2, HLV.out, pFill, if_neg (by rw [← empty_eq, hvE]; simp)]
          rw [Aside, e2]; exact hS'
        clear hS' c1 c2 hXk HE HS HLV hlr
        go_wp2
        go_roundg (n - (k + 1))
        case measure => omega
        case rel => exact ⟨k + 1, rfl, by omega, by go_num, HS'.out⟩
      | true =>
        clear hlk
        go_wp2_with fail
        refine (write_any (HS.out.alloc _) x (by omega)).mono ?_
        rintro e w' ⟨rfl, hS'⟩
        have HS' : Aside (WS wA (w.heap.size + 1) (fo X V L (k + 1)) w') := by
          have e2 : fo X V L (k + 1) = fo X V L k ++ x.data.toList := by
            rw [fo, HE.out.1, HE.out.2, pFill, if_pos (by rw [← empty_eq, hvE])]
          rw [Aside, e2]; exact hS'
        clear hS' c1 c2 hXk HE HS
        go_wp2
        go_roundg (n - (k + 1))
        case measure => omega
        case rel => exact ⟨k + 1, rfl, by omega, by go_num, HS'.out⟩
    · obtain rfl : k = n := by omega
      clear hbw
      go_wp2_with (go_at_call 19; refine (string_any HS.out).mono ?_; rintro e w' ⟨rfl, hb⟩)
      go_ret
      exact ⟨rfl, HWA.out.1.trans (hb.mono (by omega))⟩

/-! ### hasDoubleDollar -/
def NoDD (x : ByteArray) (k : Nat) : Prop := ∀ i, i < k → ¬ (dolAt x i = true ∧ dolAt x (i + 1) = true)
def RetDD (x : ByteArray) (w : World) (e : Ending) (w' : World) : Prop := ∃ b : Bool, e = .returned (.bool b) ∧ (b = false → ∀ i, ¬ (dolAt x i = true ∧ dolAt x (i + 1) = true)) ∧ w' = w

set_option maxHeartbeats 400000 in
theorem hasDD_any (x : ByteArray) (w : World) (hs : x.size ≤ 1048576) :
    Calls Tryd.prog 16 #[.string x] w fun e w' => RetDD x w e w' := by
  go_enter Tryd.func16, Tryd.ntmps16
  go_wp2_with fail
  go_loopg [3] x.size (fun kk ix wr => wr = w ∧ ∃ k : Nat, kk = x.size - k ∧ k ≤ x.size ∧ ix = .int .i64 k ∧ NoDD x k)
  case atStart => exact ⟨rfl, 0, rfl, Nat.zero_le _, rfl, fun i hi => absurd hi (by omega)⟩
  case round =>
    obtain ⟨hw, k, rfl, hk, rfl, hno⟩ := hrel
    subst hw
    have HN : Aside (NoDD x k) := hno
    clear hno
    by_cases hlt : k + 1 < x.size
    · have hlt2 : (k : Int) + 1 < (x.size : Int) := by omega
      have hlt3 : k < x.size := by omega
      have step : (dolAt x k && dolAt x (k + 1)) = false → NoDD x (k + 1) := fun h i hi hb => by
        by_cases e : i = k
        · subst e; rw [hb.1, hb.2] at h; cases h
        · exact HN.out i (by omega) hb
      have HS : Aside ((dolAt x k && dolAt x (k + 1)) = false → NoDD x (k + 1)) := step
      clear step
      cases h1 : ((x[k].toNat : Int) == 36) with
      | false =>
        go_wp2
        go_roundg (x.size - (k + 1))
        case measure => omega
        case rel => exact ⟨rfl, k + 1, rfl, by omega, by go_num, HS.out (by rw [dolAt_in hlt3, h1]; rfl)⟩
      | true =>
        cases h2 : ((x[k + 1].toNat : Int) == 36) with
        | false =>
          go_wp2
          go_roundg (x.size - (k + 1))
          case measure => omega
          case rel => exact ⟨rfl, k + 1, rfl, by omega, by go_num, HS.out (by rw [dolAt_in hlt, h2]; simp)⟩
        | true =>
          go_wp2
          go_ret
          exact ⟨true, rfl, (fun h => by cases h), rfl⟩
    · have hlt2 : ¬ ((k : Int) + 1 < (x.size : Int)) := by omega
      go_wp2
      go_ret
      refine ⟨false, rfl, (fun _ i hb => ?_), rfl⟩
      by_cases hi : i < k
      · exact HN.out i hi hb
      · have h2 := hb.2
        rw [dolAt_out (k := i + 1) (by omega)] at h2; cases h2
end Go.Proofs.Qxb6604277aDoor
