import Derived.Test.Qxb6604548aDoorFg
namespace Go.Proofs.Qxb6604548aDoor
open Go.RowKit

theorem buf_cells (w : World) (j : Nat) (hj : j < 32) : (w.alloc (.cells (Array.replicate 32 (.int .u8 0)) 51)).cell? ⟨w.heap.size, j, none⟩ = some (.int .u8 0) ∧ (w.alloc (.cells (Array.replicate 32 (.int .u8 0)) 51)).frozen? ⟨w.heap.size, j, none⟩ = false := by
  refine ⟨?_, World.frozen?_alloc_new _ _ _ _⟩
  rw [World.cell?_alloc_new, Array.getElem?_replicate, if_pos hj]
theorem og_later {w wr wx : World} {g0 : Nat} {l : List UInt8} {v : Value} (h : OG w g0 l v wr) (hb : Below wr.heap.size wr wx) (_hg : g0 < w.heap.size) : OG w g0 l v wx := by
  obtain ⟨⟨g, cap, h1, h2, h3⟩, h4⟩ := h
  have hgl := (h2.lt g rfl).2
  have hgr : wr.grownBy wx none := ⟨hb.os, hb.tape, hb.output, hb.size, fun k hk _ => hb.block k hk⟩
  exact ⟨⟨g, cap, h1, h2.kept hgr (.inr (by simp [Value.ownBlock])), h3⟩, grown_trans h4 (grown_any hgr)⟩
theorem own_far {w w3 w5 : World} {g0 : Nat} (h : w.ownsRow 0 5 1 (.slice (some ⟨g0, 0, none⟩) 0 24) 0 []) (hb : Below w.heap.size w w3) (hg : w3.grownBy w5 (some w.heap.size)) (hg0 : g0 < w.heap.size) : w5.ownsRow 0 5 1 (.slice (some ⟨g0, 0, none⟩) ([] : List UInt8).length 24) ([] : List UInt8).length (Lib.byteCells []) := by
  have h1 : w.grownBy w3 none := ⟨hb.os, hb.tape, hb.output, hb.size, fun k hk _ => hb.block k hk⟩
  exact (h.kept h1 (.inr (by simp [Value.ownBlock]))).kept hg (.inr (by simp [Value.ownBlock]; omega))
theorem grown_new {w w3 w5 : World} {g0 : Nat} (hb : Below w.heap.size w w3) (hg : w3.grownBy w5 (some w.heap.size)) : w.grownBy w5 (some g0) :=
  ⟨hg.os.trans hb.os, hg.tape.trans hb.tape, hg.output.trans hb.output, Nat.le_trans hb.size hg.size, fun k hk _ => (hg.block k (Nat.lt_of_lt_of_le hk hb.size) (fun e => by cases e; omega)).trans (hb.block k hk)⟩
theorem og_from {w w5 w6 : World} {g0 : Nat} {l : List UInt8} {v : Value} (hg : w.grownBy w5 (some g0)) (h : OG w5 g0 l v w6) : OG w g0 l v w6 := by
  obtain ⟨⟨g, cap, h1, h2, h3⟩, h4⟩ := h
  exact ⟨⟨g, cap, h1, h2, h3.imp id (fun h => Nat.le_trans hg.size h)⟩, grown_trans hg h4⟩
theorem dig_some : ∀ (d : Nat), 1 ≤ d → ∃ c ∈ Lib.decDigits d, (c == 48) = false := by
  intro d
  induction d using Nat.strongRecOn with
  | ind d ih =>
    intro h
    by_cases h10 : d < 10
    · refine ⟨UInt8.ofNat (48 + d), by rw [Lib.decDigits, dif_pos h10]; simp, ?_⟩
      rw [beq_eq_false_iff_ne]
      intro e
      have := congrArg UInt8.toNat e
      rw [UInt8.toNat_ofNat'] at this
      simp at this
      omega
    · obtain ⟨c, hc, hne⟩ := ih (d / 10) (by omega) (by omega)
      exact ⟨c, by rw [Lib.decDigits, dif_neg h10]; exact List.mem_append_left _ hc, hne⟩
theorem drop_all {p : UInt8 → Bool} : ∀ (l : List UInt8), l.dropWhile p = [] → ∀ x ∈ l, p x = true
  | [], _, x, hx => by simp at hx
  | a :: l, h, x, hx => by
    cases ha : p a with
    | false => simp [List.dropWhile, ha] at h
    | true =>
      simp [List.dropWhile, ha] at h
      rcases List.mem_cons.1 hx with rfl | hx
      · exact ha
      · exact drop_all l (by simpa using h) x hx
theorem trim_pos {d : Nat} (h : 1 ≤ d) : 1 ≤ (trimz (Lib.decDigits d)).length := by
  obtain ⟨c, hc, hne⟩ := dig_some d h
  rcases Nat.eq_zero_or_pos (trimz (Lib.decDigits d)).length with h0 | h0
  · exfalso
    have h1 : trimz (Lib.decDigits d) = [] := List.length_eq_zero_iff.1 h0
    have h2 : (Lib.decDigits d).reverse.dropWhile (· == 48) = [] := by simpa [trimz] using h1
    have := drop_all _ h2 c (by simpa using hc)
    rw [hne] at this
    cases this
  · exact h0
/-- what ftoa64 writes of a finite double that is not zero. -/
def fin (TH TL : Nat → Nat) (mant : Nat) (xp : Int) : List UInt8 :=
  let s := (64 - (Lib.bitLen mant : Int)).toNat
  let r := SF TH TL (mant * 2 ^ s) (xp - s - 52)
  gTxt (trimz (Lib.decDigits r.1)) ((Lib.nDigits r.1 : Int) + r.2)

set_option maxHeartbeats 2000000 in
set_option maxRecDepth 100000 in
theorem ftoa_N (g0 : Nat) (b : Nat) (v : Value) (TH TL : Nat → Nat) (w : World) (hb : b < 18446744073709551616) (ex mt : Nat) (hexv : b / 4503599627370496 % 2048 = ex) (hmtv : b % 4503599627370496 = mt) (hex1 : 1 ≤ ex) (hex : ex ≠ 2047) (T : Tab TH TL w) (TO : THok TH) (TP : ∀ wx, Below w.heap.size w wx → Lib.TabIs Tryd.prog wx "internal/strconv.uint64pow10" .u64 Lib.pow10Tab) (hg0 : g0 < w.heap.size) (hv : v = .slice (some ⟨g0, 0, none⟩) 0 24) (ho : w.ownsRow 0 5 1 (.slice (some ⟨g0, 0, none⟩) 0 24) 0 []) :
    Calls Tryd.prog 18 #[v, .float .f64 b, .int .u8 103, .int .i64 (-1)] w fun e w' => RetG w g0 (sgn (decide (b / 9223372036854775808 ≠ 0)) ++ fin TH TL (mt + 4503599627370496) ((ex : Int) - 1023)) e w' := by
  have e24 := ext24 b
  have HO : Aside (w.ownsRow 0 5 1 (.slice (some ⟨g0, 0, none⟩) 0 24) 0 []) := ho
  have HVV : Aside (v = .slice (some ⟨g0, 0, none⟩) 0 24) := hv
  have HT : Aside (Tab TH TL w) := T
  have HTP : Aside (∀ wx, Below w.heap.size w wx → Lib.TabIs Tryd.prog wx "internal/strconv.uint64pow10" .u64 Lib.pow10Tab) := TP
  clear ho T TP hv
  have hE := expBits hb
  have hM := mantBits hb
  have hmt2 : mt < 4503599627370496 := by rw [← hmtv]; exact Nat.mod_lt _ (by decide)
  have hO := orBits hmt2
  have hex2 : ex < 2048 := by omega
  rw [hexv] at hE
  rw [hmtv] at hM
  clear hexv hmtv
  have h2047 : ((ex : Int) == 2047) = false := beq_eq_false_iff_ne.2 (by omega)
  have hx0 : ((ex : Int) == 0) = false := beq_eq_false_iff_ne.2 (by omega)
  obtain ⟨mant, hmant⟩ : ∃ mant, mant = mt + 4503599627370496 := ⟨_, rfl⟩
  rw [← hmant] at hO ⊢
  have hm0 : ((mant : Int) == 0) = false := beq_eq_false_iff_ne.2 (by omega)
  have hmantb : 4503599627370496 ≤ mant ∧ mant < 9007199254740992 := by omega
  obtain ⟨xp, hxp⟩ : ∃ xp : Int, xp = (ex : Int) - 1023 := ⟨_, rfl⟩
  rw [← hxp]
  have hxp2 : (ex : Int) + -1023 = xp := by omega
  obtain ⟨s, hs1, hs2, hs3, hs4, hs5, hs6, hs7⟩ := shiftUp (by omega : 1 ≤ mant) hmantb.2
  have hs11 := hs6 hmantb.1
  clear hs6 hs7 hmant
  have HX : Aside (-1085 ≤ xp - s - 52 ∧ xp - s - 52 ≤ 960) := by rw [Aside]; omega
  clear hxp hs11
  generalize hneg : decide (b / 9223372036854775808 ≠ 0) = neg
  have hnegv : ((b : Int) / 9223372036854775808 != 0) = neg := by
    rw [← hneg, show (b : Int) / 9223372036854775808 = ((b / 9223372036854775808 : Nat) : Int) by omega]
    generalize b / 9223372036854775808 = c
    by_cases h : c = 0
    · subst h; rfl
    · rw [decide_eq_true h]; exact bne_iff_ne.2 (fun hh => h (by omega))
  clear hneg
  go_enter Tryd.func18, Tryd.ntmps18
  go_upto_region 14 with fail
  clear hnegv
  go_quiet (fail)
  go_wp2_with fail
  have hcs : (#[Value.int IntKind.u8 0, Value.int IntKind.u8 0, Value.int IntKind.u8 0, Value.int IntKind.u8 0, Value.int IntKind.u8 0, Value.int IntKind.u8 0, Value.int IntKind.u8 0, Value.int IntKind.u8 0, Value.int IntKind.u8 0, Value.int IntKind.u8 0, Value.int IntKind.u8 0, Value.int IntKind.u8 0, Value.int IntKind.u8 0, Value.int IntKind.u8 0, Value.int IntKind.u8 0, Value.int IntKind.u8 0, Value.int IntKind.u8 0, Value.int IntKind.u8 0, Value.int IntKind.u8 0, Value.int IntKind.u8 0, Value.int IntKind.u8 0, Value.int IntKind.u8 0, Value.int IntKind.u8 0, Value.int IntKind.u8 0, Value.int IntKind.u8 0, Value.int IntKind.u8 0, Value.int IntKind.u8 0, Value.int IntKind.u8 0, Value.int IntKind.u8 0, Value.int IntKind.u8 0, Value.int IntKind.u8 0, Value.int IntKind.u8 0] : Array Value) = Array.replicate 32 (.int .u8 0) := rfl
  rw [hcs]
  clear hcs
  generalize hW : (w.drewN nq).alloc (Obj.cells (Array.replicate 32 (Value.int IntKind.u8 0)) 51) = W
  have hbc : ∀ j, j < 32 → W.cell? ⟨w.heap.size, j, none⟩ = some (.int .u8 0) ∧ W.frozen? ⟨w.heap.size, j, none⟩ = false := fun j hj => by rw [← hW]; exact buf_cells (w.drewN nq) j hj
  have hbW : Below w.heap.size w W := by rw [← hW]; exact (below_drewN (Below.refl _ _) nq).alloc (Nat.le_refl _) _
  have hszW : W.heap.size = w.heap.size + 1 := by rw [← hW]; simp
  have HW : Aside ((∀ j, j < 32 → W.cell? ⟨w.heap.size, j, none⟩ = some (.int .u8 0) ∧ W.frozen? ⟨w.heap.size, j, none⟩ = false) ∧ Below w.heap.size w W ∧ W.heap.size = w.heap.size + 1) := ⟨hbc, hbW, hszW⟩
  clear hW hbc hbW hszW
  refine (Tryd.bits_Len64 (mant : Int) W (by omega) (by omega)).mono ?_
  rintro e w' ⟨rfl, hw⟩
  obtain rfl := hw.symm
  clear hw
  rw [Int.toNat_natCast]
  go_wp2_with fail
  have hmw : IntKind.u64.wrap ((mant : Int) * 2 ^ s) = ((mant * 2 ^ s : Nat) : Int) := by
    rw [pow_cast, ← Int.natCast_mul, IntKind.wrap_u64]
    omega
  rw [hmw]
  have hsn : (64 - (Lib.bitLen mant : Int)).toNat = s := by rw [hs3]; rfl
  have HFI : Aside (fin TH TL mant xp = gTxt (trimz (Lib.decDigits (SF TH TL (mant * 2 ^ s) (xp - s - 52)).1)) ((Lib.nDigits (SF TH TL (mant * 2 ^ s) (xp - s - 52)).1 : Int) + (SF TH TL (mant * 2 ^ s) (xp - s - 52)).2)) := by rw [Aside, fin, hsn]
  clear hmw hsn hs3
  have hSO := SF_ok (TL := TL) TO hs4 hs5 (e := xp - s - 52) (by have := HX.out; omega)
  have HSF := sf_any (mant * 2 ^ s) (xp - s - 52) TH TL W hs4 hs5 (by have := HX.out; omega) (HT.out.later HW.out.2.1)
  generalize mant * 2 ^ s = m at *
  refine HSF.mono ?_
  rintro e w3 ⟨rfl, hb3⟩
  clear HSF
  obtain ⟨k1, k2, k3, k4⟩ := hSO
  generalize (SF TH TL m (xp - s - 52)).1 = d at *
  generalize (SF TH TL m (xp - s - 52)).2 = p at *
  have hnd := nDig_le k1 k2
  have HB3 : Aside (Below W.heap.size W w3) := hb3
  clear hb3
  go_wp2_with fail
  have HB4 : Aside (Below w.heap.size w w3) := HW.out.2.1.trans (HB3.out.mono HW.out.2.1.size)
  have HZ : Aside (∀ j, j < 32 → w3.cell? ⟨w.heap.size, j, none⟩ = some (.int .u8 0) ∧ w3.frozen? ⟨w.heap.size, j, none⟩ = false) := fun j hj =>
    ⟨(HB3.out.cell (by show w.heap.size < W.heap.size; have := HW.out.2.2; omega)).trans (HW.out.1 j hj).1, (HB3.out.frozen (by show w.heap.size < W.heap.size; have := HW.out.2.2; omega)).trans (HW.out.1 j hj).2⟩
  go_region_with (first
    | (go_at_call 31; refine (Tryd.internal_strconv_numDigits d k1 k2 _ (HTP.out _ (HB4.out.drew))).mono ?_; rintro e w4 ⟨rfl, hw⟩; rw [hw])
    | (go_at_call 30; go_loud (refine (setDigits_any w.heap.size d p w3.drew k2 ⟨by omega, by omega⟩ hnd HZ.out).mono ?_; rintro e w5 ⟨rfl, hcl, hgr⟩; have HCL : Aside (∀ (j : Nat) (c : UInt8), (trimz (Lib.decDigits d))[j]? = some c → w5.cell? ⟨w.heap.size, j, none⟩ = some (.int .u8 c.toNat)) := hcl; have HGR : Aside (w3.grownBy w5 (some w.heap.size)) := ⟨hgr.os, hgr.tape, hgr.output, hgr.size, hgr.block⟩; clear hcl hgr)))
  all_goals (
    have HO5 : Aside (OG w5 g0 [] v w5) := ⟨⟨g0, 24, HVV.out, own_far HO.out HB4.out HGR.out hg0, .inl rfl⟩, World.grownBy.refl _ _⟩
    have hD1 : 1 ≤ (trimz (Lib.decDigits d)).length := trim_pos k1
    have hD2 : (trimz (Lib.decDigits d)).length ≤ 20 := Nat.le_trans (trimz_le _) (by rw [Lib.decDigits_length]; exact hnd)
    have HGF : Aside (w.grownBy w5 (some g0)) := grown_new HB4.out HGR.out
    go_wp2_with fail
    refine (fmt_any g0 w.heap.size [] (trimz (Lib.decDigits d)) v neg _ w5 (by omega) (by simp) hD1 hD2 (by omega) HCL.out HO5.out).mono ?_
    rintro e w6 ⟨v6, rfl, h6⟩
    have H6 : Aside (RetG w g0 (sgn neg ++ fin TH TL mant xp) (.returned v6) w6) := ⟨v6, rfl, by rw [HFI.out]; exact og_from HGF.out (by simpa using h6)⟩
    clear h6 HCL HO5 HGF
    go_wp2
    go_ret
    exact H6.out)
end Go.Proofs.Qxb6604548aDoor
