import Derived.Test.Qxb6604548aDoorFh
namespace Go.Proofs.Qxb6604548aDoor
open Go.RowKit

set_option maxHeartbeats 2000000 in
set_option maxRecDepth 100000 in
theorem ftoa_S (g0 : Nat) (b : Nat) (v : Value) (TH TL : Nat → Nat) (w : World) (hb : b < 18446744073709551616) (mant : Nat) (hexv : b / 4503599627370496 % 2048 = 0) (hmtv : b % 4503599627370496 = mant) (hmt1 : 1 ≤ mant) (T : Tab TH TL w) (TO : THok TH) (TP : ∀ wx, Below w.heap.size w wx → Lib.TabIs Tryd.prog wx "internal/strconv.uint64pow10" .u64 Lib.pow10Tab) (hg0 : g0 < w.heap.size) (hv : v = .slice (some ⟨g0, 0, none⟩) 0 24) (ho : w.ownsRow 0 5 1 (.slice (some ⟨g0, 0, none⟩) 0 24) 0 []) :
    Calls Tryd.prog 18 #[v, .float .f64 b, .int .u8 103, .int .i64 (-1)] w fun e w' => RetG w g0 (sgn (decide (b / 9223372036854775808 ≠ 0)) ++ fin TH TL mant (-1022)) e w' := by
  have e24 := ext24 b
  have HO : Aside (w.ownsRow 0 5 1 (.slice (some ⟨g0, 0, none⟩) 0 24) 0 []) := ho
  have HVV : Aside (v = .slice (some ⟨g0, 0, none⟩) 0 24) := hv
  have HT : Aside (Tab TH TL w) := T
  have HTP : Aside (∀ wx, Below w.heap.size w wx → Lib.TabIs Tryd.prog wx "internal/strconv.uint64pow10" .u64 Lib.pow10Tab) := TP
  clear ho T TP hv
  have hE := expBits hb
  have hM := mantBits hb
  have hmt2 : mant < 4503599627370496 := by rw [← hmtv]; exact Nat.mod_lt _ (by decide)
  rw [hexv] at hE
  rw [hmtv] at hM
  clear hexv hmtv
  have hm0 : ((mant : Int) == 0) = false := beq_eq_false_iff_ne.2 (by omega)
  obtain ⟨xp, hxp⟩ : ∃ xp : Int, xp = -1022 := ⟨_, rfl⟩
  rw [← hxp]
  obtain ⟨s, hs1, hs2, hs3, hs4, hs5, hs6, hs7⟩ := shiftUp hmt1 (by omega : mant < 9007199254740992)
  have hs12 := hs7 hmt2
  clear hs6 hs7
  have HX : Aside (-1137 ≤ xp - s - 52 ∧ xp - s - 52 ≤ 960) := by rw [Aside]; omega
  have HXP : Aside ((-1022 : Int) = xp) := hxp.symm
  have hxb : -1022 ≤ xp ∧ xp ≤ -1022 := by omega
  clear hxp hs12
  generalize hneg : decide (b / 9223372036854775808 ≠ 0) = neg
  have hnegv : ((b : Int) / 9223372036854775808 != 0) = neg := by
    rw [← hneg, show (b : Int) / 9223372036854775808 = ((b / 9223372036854775808 : Nat) : Int) by omega]
    generalize b / 9223372036854775808 = c
    by_cases h : c = 0
    · subst h; rfl
    · rw [decide_eq_true h]; exact bne_iff_ne.2 (fun hh => h (by omega))
  clear hneg
  go_enter Tryd.func18, Tryd.ntmps18
  go_upto_region 14 with fail
  clear hnegv
  go_quiet (fail)
  go_wp2_with fail
  have hcs : (#[Value.int IntKind.u8 0, Value.int IntKind.u8 0, Value.int IntKind.u8 0, Value.int IntKind.u8 0, Value.int IntKind.u8 0, Value.int IntKind.u8 0, Value.int IntKind.u8 0, Value.int IntKind.u8 0, Value.int IntKind.u8 0, Value.int IntKind.u8 0, Value.int IntKind.u8 0, Value.int IntKind.u8 0, Value.int IntKind.u8 0, Value.int IntKind.u8 0, Value.int IntKind.u8 0, Value.int IntKind.u8 0, Value.int IntKind.u8 0, Value.int IntKind.u8 0, Value.int IntKind.u8 0, Value.int IntKind.u8 0, Value.int IntKind.u8 0, Value.int IntKind.u8 0, Value.int IntKind.u8 0, Value.int IntKind.u8 0, Value.int IntKind.u8 0, Value.int IntKind.u8 0, Value.int IntKind.u8 0, Value.int IntKind.u8 0, Value.int IntKind.u8 0, Value.int IntKind.u8 0, Value.int IntKind.u8 0, Value.int IntKind.u8 0] : Array Value) = Array.replicate 32 (.int .u8 0) := rfl
  rw [hcs]
  clear hcs
  rw [HXP.out]
  generalize hW : (w.drewN nq).alloc (Obj.cells (Array.replicate 32 (Value.int IntKind.u8 0)) 51) = W
  have hbc : ∀ j, j < 32 → W.cell? ⟨w.heap.size, j, none⟩ = some (.int .u8 0) ∧ W.frozen? ⟨w.heap.size, j, none⟩ = false := fun j hj => by rw [← hW]; exact buf_cells (w.drewN nq) j hj
  have hbW : Below w.heap.size w W := by rw [← hW]; exact (below_drewN (Below.refl _ _) nq).alloc (Nat.le_refl _) _
  have hszW : W.heap.size = w.heap.size + 1 := by rw [← hW]; simp
  have HW : Aside ((∀ j, j < 32 → W.cell? ⟨w.heap.size, j, none⟩ = some (.int .u8 0) ∧ W.frozen? ⟨w.heap.size, j, none⟩ = false) ∧ Below w.heap.size w W ∧ W.heap.size = w.heap.size + 1) := ⟨hbc, hbW, hszW⟩
  clear hW hbc hbW hszW
  refine (Tryd.bits_Len64 (mant : Int) W (by omega) (by omega)).mono ?_
  rintro e w' ⟨rfl, hw⟩
  obtain rfl := hw.symm
  clear hw
  rw [Int.toNat_natCast]
  go_wp2_with fail
  have hmw : IntKind.u64.wrap ((mant : Int) * 2 ^ s) = ((mant * 2 ^ s : Nat) : Int) := by
    rw [pow_cast, ← Int.natCast_mul, IntKind.wrap_u64]
    omega
  rw [hmw]
  have hsn : (64 - (Lib.bitLen mant : Int)).toNat = s := by rw [hs3]; rfl
  have HFI : Aside (fin TH TL mant xp = gTxt (trimz (Lib.decDigits (SF TH TL (mant * 2 ^ s) (xp - s - 52)).1)) ((Lib.nDigits (SF TH TL (mant * 2 ^ s) (xp - s - 52)).1 : Int) + (SF TH TL (mant * 2 ^ s) (xp - s - 52)).2)) := by rw [Aside, fin, hsn]
  clear hmw hsn hs3
  have hSO := SF_ok (TL := TL) TO hs4 hs5 (e := xp - s - 52) (by have := HX.out; omega)
  have HSF := sf_any (mant * 2 ^ s) (xp - s - 52) TH TL W hs4 hs5 (by have := HX.out; omega) (HT.out.later HW.out.2.1)
  generalize mant * 2 ^ s = m at *
  refine HSF.mono ?_
  rintro e w3 ⟨rfl, hb3⟩
  clear HSF
  obtain ⟨k1, k2, k3, k4⟩ := hSO
  generalize (SF TH TL m (xp - s - 52)).1 = d at *
  generalize (SF TH TL m (xp - s - 52)).2 = p at *
  have hnd := nDig_le k1 k2
  have HB3 : Aside (Below W.heap.size W w3) := hb3
  clear hb3
  go_wp2_with fail
  have HB4 : Aside (Below w.heap.size w w3) := HW.out.2.1.trans (HB3.out.mono HW.out.2.1.size)
  have HZ : Aside (∀ j, j < 32 → w3.cell? ⟨w.heap.size, j, none⟩ = some (.int .u8 0) ∧ w3.frozen? ⟨w.heap.size, j, none⟩ = false) := fun j hj =>
    ⟨(HB3.out.cell (by show w.heap.size < W.heap.size; have := HW.out.2.2; omega)).trans (HW.out.1 j hj).1, (HB3.out.frozen (by show w.heap.size < W.heap.size; have := HW.out.2.2; omega)).trans (HW.out.1 j hj).2⟩
  go_region_with (first
    | (go_at_call 31; refine (Tryd.internal_strconv_numDigits d k1 k2 _ (HTP.out _ (HB4.out.drew))).mono ?_; rintro e w4 ⟨rfl, hw⟩; rw [hw])
    | (go_at_call 30; go_loud (refine (setDigits_any w.heap.size d p w3.drew k2 ⟨by omega, by omega⟩ hnd HZ.out).mono ?_; rintro e w5 ⟨rfl, hcl, hgr⟩; have HCL : Aside (∀ (j : Nat) (c : UInt8), (trimz (Lib.decDigits d))[j]? = some c → w5.cell? ⟨w.heap.size, j, none⟩ = some (.int .u8 c.toNat)) := hcl; have HGR : Aside (w3.grownBy w5 (some w.heap.size)) := ⟨hgr.os, hgr.tape, hgr.output, hgr.size, hgr.block⟩; clear hcl hgr)))
  all_goals (
    have HO5 : Aside (OG w5 g0 [] v w5) := ⟨⟨g0, 24, HVV.out, own_far HO.out HB4.out HGR.out hg0, .inl rfl⟩, World.grownBy.refl _ _⟩
    have hD1 : 1 ≤ (trimz (Lib.decDigits d)).length := trim_pos k1
    have hD2 : (trimz (Lib.decDigits d)).length ≤ 20 := Nat.le_trans (trimz_le _) (by rw [Lib.decDigits_length]; exact hnd)
    have HGF : Aside (w.grownBy w5 (some g0)) := grown_new HB4.out HGR.out
    go_wp2_with fail
    refine (fmt_any g0 w.heap.size [] (trimz (Lib.decDigits d)) v neg _ w5 (by omega) (by simp) hD1 hD2 (by omega) HCL.out HO5.out).mono ?_
    rintro e w6 ⟨v6, rfl, h6⟩
    have H6 : Aside (RetG w g0 (sgn neg ++ fin TH TL mant xp) (.returned v6) w6) := ⟨v6, rfl, by rw [HFI.out]; exact og_from HGF.out (by simpa using h6)⟩
    clear h6 HCL HO5 HGF
    go_wp2
    go_ret
    exact H6.out)
end Go.Proofs.Qxb6604548aDoor
