import Derived.Test.Qxb6604188aDoorB2
namespace Go.Proofs.Qxb6604188aDoor
open Go.RowKit

theorem blk_add (a : Addr) (i : Nat) : (a.add i).block = a.block := by unfold Addr.add; split <;> rfl

/-- WHAT modelScanLocalB1 HANDS BACK. -/
def MZ (w : World) (ao : Option Addr) (n : Nat) (S : Nat → ByteArray) (s : ByteArray) (p : Nat) (e : Ending) (w' : World) : Prop :=
  ∃ ok gs q a c, e = .returned (.tuple #[.bool ok, .slice a (n + gs.length) c, .int .i64 (q : Nat)]) ∧ Scan s gs p ok q ∧ Rd w' a (n + gs.length) (T S n gs) ∧ a.isNone = (ao.isNone && gs.isEmpty) ∧ Below w.heap.size w w'

theorem or_snoc {P Q : Nat → Bool} {p e : Nat} (h : ∀ k, p ≤ k → k < e → P k = true ∨ Q k = true) (he : P e = true ∨ Q e = true) : ∀ k, p ≤ k → k < e + 1 → P k = true ∨ Q k = true := fun k h1 h2 => by
  by_cases hk : k = e
  · rw [hk]; exact he
  · exact h k h1 (by omega)

theorem sep_notLab {s : ByteArray} {k : Nat} (h : sepAt s k = true) : labAt s k = false := by
  cases hl : labAt s k with
  | false => rfl
  | true => rw [labAt_notSep hl] at h; cases h

/-- THE MODEL's STATE: 'done' appended to the clone, the world of old below. -/
structure MS (w : World) (ao : Option Addr) (n : Nat) (S : Nat → ByteArray) (base : Nat) (ao' : Option Addr) (done : List ByteArray) (v : Value) (wr : World) : Prop where
  cur : Cur wr base ao' n (strL S n) v (done.map Value.string)
  olds : Olds wr ao' n (strL S n)
  rd : Rd wr ao' n S
  nil : ao'.isNone = ao.isNone
  bel : Below w.heap.size w wr
  sz : base ≤ wr.heap.size
  lo : w.heap.size ≤ base
  own : ∀ a, ao' = some a → 0 < n → a.block < base

theorem ms_start {w w1 : World} {ao ao' : Option Addr} {n : Nat} {S : Nat → ByteArray} (h : IsClone w ao n S ao' w1) : MS w ao n S w1.heap.size ao' [] (.slice ao' n n) w1 :=
  ⟨Cur.start _ _ _ _ _, h.olds, h.rd, h.nil, h.bel, Nat.le_refl _, h.bel.size, fun a ha hn => by
    obtain ⟨b, off, h1, h2⟩ := h.rd 0 hn
    rw [ha] at h1; cases h1
    exact World.block_lt_of_cell? _ _ h2⟩

theorem MS.push {w wr : World} {ao ao' : Option Addr} {n : Nat} {S : Nat → ByteArray} {base : Nat} {done : List ByteArray} {v : Value} (h : MS w ao n S base ao' done v wr) {o : Obj} {g : ByteArray} {v' : Value} {w' : World}
    (hc : Cur w' base ao' n (strL S n) v' (done.map Value.string ++ [Value.string g])) (hb : Below base (wr.alloc o) w') : MS w ao n S base ao' (done ++ [g]) v' w' := by
  have hb' : Below base wr w' := ((Below.refl base wr).alloc h.sz o).trans hb
  refine ⟨by simpa using hc, ⟨h.olds.1, h.olds.2.1, fun a ha j u hj => ?_⟩, fun k hk => ?_, h.nil, h.bel.trans (hb'.mono h.lo), Nat.le_trans h.sz hb'.size, h.lo, h.own⟩
  · have hn : 0 < n := by
      have := (List.getElem?_eq_some_iff.1 hj).1
      rw [strL_len] at this; omega
    exact (hb'.cell (by rw [blk_add]; exact h.own a ha hn)).trans (h.olds.2.2 a ha j u hj)
  · obtain ⟨b, off, h1, h2⟩ := h.rd k hk
    exact ⟨b, off, h1, (hb'.cell (by have := h.own _ h1 (by omega); exact this)).trans h2⟩

theorem MS.mz {w wr : World} {ao ao' : Option Addr} {n : Nat} {S : Nat → ByteArray} {base : Nat} {done : List ByteArray} {v : Value} (h : MS w ao n S base ao' done v wr) {s : ByteArray} {p q : Nat} {ok : Bool} (hs : Scan s done p ok q) {e : Ending}
    (he : e = .returned (.tuple #[.bool ok, v, .int .i64 q])) : MZ w ao n S s p e wr := by
  obtain ⟨a, c, rfl, h1, h2⟩ := cur_rd h.cur h.rd
  exact ⟨ok, done, q, a, c, he, hs, h1, by rw [h2, h.nil], h.bel⟩

set_option maxHeartbeats 1000000 in
set_option maxRecDepth 100000 in
theorem model_any (ao : Option Addr) (n c : Nat) (S : Nat → ByteArray) (s : ByteArray) (p : Nat) (w : World) (hn : n ≤ 1048576) (hs : s.size ≤ 1048576) (_hp : (p : Int) ≤ 9223372036854775807) (hr : Rd w ao n S) (hnil : ao = none → n = 0 ∧ c = 0) :
    Calls Tryd.prog 10 #[.slice ao n c, .string s, .int .i64 p] w fun e w' => MZ w ao n S s p e w' := by
  have HC := clone_any ao n c S w hn hr hnil
  clear hr hnil
  go_enter Tryd.func10, Tryd.ntmps10
  go_wp2_with fail
  refine HC.mono ?_
  rintro e w1 ⟨ao', rfl, hcl⟩
  have HM : Aside (MS w ao n S w1.heap.size ao' [] (.slice ao' n n) w1) := ms_start hcl
  clear hcl HC
  by_cases hps : s.size < p
  · go_wp2
    go_ret3
    exact HM.out.mz (s := s) ⟨rfl, rfl, labAt_out (by omega)⟩ rfl
  · have hps' : (p : Int) ≤ (s.size : Int) := by omega
    go_upto_block 0 with fail
    go_cut [10] (fun t wx => wx = w1 ∧ ∃ j : Nat, t = .int .i64 j ∧ p ≤ j ∧ j ≤ s.size ∧ (∀ k, p ≤ k → k < j → labAt s k = true ∨ sepAt s k = true) ∧ labAt s j = false ∧ sepAt s j = false)
    case first =>
      go_wp2_with fail
      go_loopg [10] (s.size - p) (fun k t wx => wx = w1 ∧ ∃ j : Nat, k = s.size - j ∧ t = .int .i64 j ∧ p ≤ j ∧ j ≤ s.size ∧ (∀ k, p ≤ k → k < j → labAt s k = true ∨ sepAt s k = true))
      case atStart => exact ⟨rfl, p, rfl, rfl, Nat.le_refl _, by omega, fun k h1 h2 => absurd h1 (by omega)⟩
      case round =>
        obtain ⟨rfl, j, rfl, rfl, hj1, hj2, hj3⟩ := hrel
        have HJ : Aside (∀ k, p ≤ k → k < j → labAt s k = true ∨ sepAt s k = true) := hj3
        clear hj3
        by_cases hlt : j < s.size
        · cases hl : isLabZ s[j].toNat with
          | true =>
            go_wp2_with (go_at_call 13; refine (isLabelB1_t _ _ hl).mono ?_; rintro e w' ⟨rfl, rfl⟩)
            go_roundg (s.size - (j + 1))
            case measure => omega
            case rel => exact ⟨rfl, j + 1, rfl, by go_num, by omega, by omega, or_snoc HJ.out (.inl (by rw [labAt_in hlt]; exact hl))⟩
          | false =>
            cases hsp : isSepZ s[j].toNat with
            | true =>
              go_wp2_with (first | (go_at_call 13; refine (isLabelB1_f _ _ hl).mono ?_; rintro e w' ⟨rfl, rfl⟩) | (go_at_call 17; refine (isSepB1_t _ _ hsp).mono ?_; rintro e w' ⟨rfl, rfl⟩))
              go_roundg (s.size - (j + 1))
              case measure => omega
              case rel => exact ⟨rfl, j + 1, rfl, by go_num, by omega, by omega, or_snoc HJ.out (.inr (by rw [sepAt_in hlt]; exact hsp))⟩
            | false =>
              go_wp2_with (first | (go_at_call 13; refine (isLabelB1_f _ _ hl).mono ?_; rintro e w' ⟨rfl, rfl⟩) | (go_at_call 17; refine (isSepB1_f _ _ hsp).mono ?_; rintro e w' ⟨rfl, rfl⟩))
              go_meet
              case rel => exact ⟨rfl, j, rfl, hj1, hj2, HJ.out, by rw [labAt_in hlt]; exact hl, by rw [sepAt_in hlt]; exact hsp⟩
        · go_wp2
          go_meet
          case rel => exact ⟨rfl, j, rfl, hj1, hj2, HJ.out, labAt_out hlt, sepAt_out hlt⟩
    case rest =>
      obtain ⟨rfl, j, rfl, hj1, hj2, hj3, hj4, hj5⟩ := hcut
      have HJ : Aside ((∀ k, p ≤ k → k < j → labAt s k = true ∨ sepAt s k = true) ∧ labAt s j = false ∧ sepAt s j = false) := ⟨hj3, hj4, hj5⟩
      clear hj3 hj4 hj5
      generalize wc.heap.size = B at HM
      go_wp2_with fail
      go_loopg [9, 11, 12] (j + 1 - p) (fun k v st t wr => ∃ (a k0 : Nat) (done : List ByteArray), k = j + 1 - k0 ∧ p ≤ a ∧ a ≤ k0 ∧ k0 ≤ j ∧ t = .int .i64 k0 ∧ st = .int .i64 a ∧ done.length ≤ a ∧ (∀ x, a ≤ x → x < k0 → labAt s x = true) ∧ Sofar s p done a ∧ MS w ao n S B ao' done v wr)
      case atStart => exact ⟨p, p, [], rfl, Nat.le_refl _, Nat.le_refl _, hj1, rfl, rfl, Nat.zero_le _, fun x h1 h2 => absurd h1 (by omega), sofar_start s p, HM.out⟩
      case round =>
        clear HM
        obtain ⟨a, k0, done, rfl, ha1, ha2, hk0, rfl, rfl, hdl, hlab, hsof, hM⟩ := hrel
        have HM : Aside (MS w ao n S B ao' done u9 wr) := hM
        have HL : Aside (∀ x, a ≤ x → x < k0 → labAt s x = true) := hlab
        have HO : Aside (Sofar s p done a) := hsof
        clear hM hlab hsof
        by_cases hk : k0 = j
        · subst hk
          go_upto_region 13 with fail
          generalize hg : s.extract a k0 = g
          have HG : Aside (s.extract a k0 = g) := hg
          have hgsz : g.size = k0 - a := by rw [← hg]; simp; omega
          clear hg
          by_cases hst : a = k0
          · have hE : g.toList.isEmpty = true := by rw [empty_iff]; exact decide_eq_true (by omega)
            have HF : Aside (Scan s done p false a) := sofar_fail HO.out (by rw [hst]; exact HJ.out.2.1)
            clear hgsz hst
            go_wp2
            go_ret3
            exact HM.out.mz HF.out rfl
          · have hE : g.toList.isEmpty = false := by rw [empty_iff]; exact decide_eq_false (by omega)
            have hgp : 0 < g.size := by omega
            have hgm : g.size ≤ maxLen := by unfold maxLen; omega
            clear hgsz
            go_upto_if 66 with (go_at_call 14; refine (allDigitsB1_any _ _ hgm).mono ?_; rintro e w' ⟨rfl, hw⟩; obtain rfl := hw.symm)
            go_cut [13] (fun seg wx => seg = .string (canon g) ∧ wx = wr)
            case first =>
              go_wp2_with (go_at_call 19; refine (canonDigitsB1_any _ _ hgm hgp).mono ?_; rintro e w' ⟨rfl, hw⟩; obtain rfl := hw.symm)
              · have hd : allDig g.data.toList = true := by assumption
                go_meet
                case rel => exact ⟨by rw [canon, if_pos hd], rfl⟩
              · have hd : allDig g.data.toList = false := by assumption
                go_meet
                case rel => exact ⟨by rw [canon, if_neg (by simp [hd])], rfl⟩
            case rest =>
              obtain ⟨rfl, hwc⟩ := hcut
              subst hwc
              clear hgm hgp hE
              generalize hc0 : canon g = c0 at *
              have HC0 : Aside (canon (s.extract a k0) = c0) := by rw [HG.out]; exact hc0
              clear hc0 HG
              go_wp2_with (at_builtin; refine wpList_append_cur _ rfl (.tmp 69) (.tmp 71) rfl rfl (HM.out.cur.alloc _) (HM.out.olds.alloc _) ⟨wc.heap.size, 0, none⟩ 1 (.string c0) rfl (cell_one_new _ _ _) rfl (by simp; omega) (by have := HM.out.sz; simp; omega) ?_; intro v' w2 hcur hbel; have HM2 : Aside (MS w ao n S B ao' (done ++ [c0]) v' w2) := HM.out.push hcur hbel; clear hcur hbel)
              go_ret3
              exact HM2.out.mz (HC0.out ▸ sofar_end HO.out (by omega) hj2 HL.out HJ.out.2.1 HJ.out.2.2) rfl
        · have hkj : k0 < j := by omega
          have hq : ((k0 : Int) == (j : Int)) = false := beq_eq_false_iff_ne.2 (by omega)
          have hks : k0 < s.size := by omega
          cases hsp : isSepZ s[k0].toNat with
          | false =>
            have hl : labAt s k0 = true := by
              rcases HJ.out.1 k0 (by omega) hkj with h | h
              · exact h
              · rw [sepAt_in hks, hsp] at h; cases h
            go_wp2_with (go_at_call 17; refine (isSepB1_f _ _ hsp).mono ?_; rintro e w' ⟨rfl, rfl⟩)
            go_roundg (j + 1 - (k0 + 1))
            case measure => omega
            case rel => exact ⟨a, k0 + 1, done, rfl, ha1, by omega, by omega, by go_num, rfl, hdl, lab_snoc HL.out hl, HO.out, HM.out⟩
          | true =>
            have HL2 : Aside (labAt s k0 = false) := sep_notLab (by rw [sepAt_in hks]; exact hsp)
            go_upto_region 13 with (go_at_call 17; refine (isSepB1_t _ _ hsp).mono ?_; rintro e w' ⟨rfl, hw⟩; obtain rfl := hw.symm)
            have HSP : Aside (isSepZ s[k0].toNat = true) := hsp
            clear hsp
            generalize hg : s.extract a k0 = g
            have HG : Aside (s.extract a k0 = g) := hg
            have hgsz : g.size = k0 - a := by rw [← hg]; simp; omega
            clear hg
            by_cases hst : a = k0
            · have hE : g.toList.isEmpty = true := by rw [empty_iff]; exact decide_eq_true (by omega)
              have HF : Aside (Scan s done p false a) := sofar_fail HO.out (by rw [hst]; exact HL2.out)
              clear hgsz hst
              go_wp2
              go_ret3
              exact HM.out.mz HF.out rfl
            · have hE : g.toList.isEmpty = false := by rw [empty_iff]; exact decide_eq_false (by omega)
              have hgp : 0 < g.size := by omega
              have hgm : g.size ≤ maxLen := by unfold maxLen; omega
              clear hgsz
              go_upto_if 66 with (go_at_call 14; refine (allDigitsB1_any _ _ hgm).mono ?_; rintro e w' ⟨rfl, hw⟩; obtain rfl := hw.symm)
              go_cut [13] (fun seg wx => seg = .string (canon g) ∧ wx = wr)
              case first =>
                go_wp2_with (go_at_call 19; refine (canonDigitsB1_any _ _ hgm hgp).mono ?_; rintro e w' ⟨rfl, hw⟩; obtain rfl := hw.symm)
                · have hd : allDig g.data.toList = true := by assumption
                  go_meet
                  case rel => exact ⟨by rw [canon, if_pos hd], rfl⟩
                · have hd : allDig g.data.toList = false := by assumption
                  go_meet
                  case rel => exact ⟨by rw [canon, if_neg (by simp [hd])], rfl⟩
              case rest =>
                obtain ⟨rfl, hwc⟩ := hcut
                subst hwc
                clear hgm hgp hE
                generalize hc0 : canon g = c0 at *
                have HC0 : Aside (canon (s.extract a k0) = c0) := by rw [HG.out]; exact hc0
                clear hc0 HG
                go_wp2_with (at_builtin; refine wpList_append_cur _ rfl (.tmp 69) (.tmp 71) rfl rfl (HM.out.cur.alloc _) (HM.out.olds.alloc _) ⟨wc.heap.size, 0, none⟩ 1 (.string c0) rfl (cell_one_new _ _ _) rfl (by simp; omega) (by have := HM.out.sz; simp; omega) ?_; intro v' w2 hcur hbel; have HM2 : Aside (MS w ao n S B ao' (done ++ [c0]) v' w2) := HM.out.push hcur hbel; clear hcur hbel)
                go_roundg (j + 1 - (k0 + 1))
                case measure => omega
                case rel => exact ⟨k0 + 1, k0 + 1, done ++ [c0], rfl, by omega, Nat.le_refl _, by omega, by go_num, by go_num, by simp; omega, fun x h1 h2 => absurd h1 (by omega), HC0.out ▸ sofar_step HO.out (by omega) (by omega) HL.out HL2.out (by rw [sepAt_in hks]; exact HSP.out), HM2.out⟩
end Go.Proofs.Qxb6604188aDoor
