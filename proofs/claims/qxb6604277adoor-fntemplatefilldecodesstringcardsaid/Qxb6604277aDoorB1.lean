import Derived.Test.Qxb6604277aDoorA6
namespace Go.Proofs.Qxb6604277aDoor
open Go.RowKit

theorem Tryd.info9 : (Tryd.prog.info? 9).map (fun i => (i.zero, i.size, i.bytes)) = some (some (.string ByteArray.empty), 1, 16) := by kernel_rfl
theorem Tryd.size9 : (Tryd.prog.info? 9).map (·.size) = some 1 := by kernel_rfl
def strL (S : Nat → ByteArray) (n : Nat) : List Value := (List.range n).map fun k => .string (S k)
theorem strL_at (S : Nat → ByteArray) (n k : Nat) (h : k < n) : (strL S n)[k]? = some (.string (S k)) := by simp [strL, h]
theorem strL_len (S : Nat → ByteArray) (n : Nat) : (strL S n).length = n := by simp [strL]
def mk9 (n : Nat) : List Value := (madeCells #[.string ByteArray.empty] n).toList
theorem mk9_len (n : Nat) : (mk9 n).length = n := by simp [mk9, size_madeCells]

/-- The row behind the copy reads as the source did. -/
theorem rd_copied {w' : World} {g n : Nat} {X : Nat → ByteArray} (h : w'.heap[g]? = some (.cells (splice (mk9 n) 0 (strL X n)).toArray 9 (0, 0))) : Rd w' (some ⟨g, 0, none⟩) n X := fun k hk => by
  refine ⟨g, 0, rfl, ?_⟩
  have e : splice (mk9 n) 0 (strL X n) = strL X n := by
    simp [splice, strL_len, mk9_len]
  rw [e] at h
  rw [Nat.zero_add, World.cell?, h]
  simp [strL_at X n k hk]
theorem src_copied {w wx : World} {ao : Option Addr} {n : Nat} {X : Nat → ByteArray} (h : Rd w ao n X) (hb : Below w.heap.size w wx) : 0 < (strL X n).length → ∃ ad, ao = some ad ∧ ∀ j v, (strL X n)[j]? = some v → wx.cell? (ad.add j) = some v := fun hp => by
  rw [strL_len] at hp
  obtain ⟨b, off, h1, _⟩ := h 0 hp
  refine ⟨_, h1, fun j v hj => ?_⟩
  have hjn : j < n := by
    have := (List.getElem?_eq_some_iff.1 hj).1
    rwa [strL_len] at this
  obtain ⟨b', off', h1', h2'⟩ := h j hjn
  rw [h1] at h1'; cases h1'
  rw [strL_at X n j hjn] at hj; cases hj
  rw [Addr.add_lit]
  exact cell_later hb h2'
theorem strL_one (S : Nat → ByteArray) (n : Nat) : ∀ v ∈ strL S n, v.oneCell' = true := fun v hv => by
  simp only [strL, List.mem_map] at hv; obtain ⟨k, _, rfl⟩ := hv; rfl

theorem copy_run {w : World} {ad : Addr} {n c : Nat} {X : Nat → ByteArray} (h : Rd w (some ad) n X) :
    ∃ W', (Builtin.copy_ #[22, 22] 3 #[.slice (some ⟨w.heap.size, 0, none⟩) n n, .slice (some ad) n c]).run Tryd.prog (w.alloc (.cells (madeCells #[.string ByteArray.empty] n) 9)) = .ok (.int .i64 n) W' ∧
      Rd W' (some ⟨w.heap.size, 0, none⟩) n X ∧ Below w.heap.size w W' := by
  have hbl : Below w.heap.size w (w.alloc (.cells (madeCells #[.string ByteArray.empty] n) 9)) := (Below.refl _ _).alloc (Nat.le_refl _) _
  by_cases h0 : n = 0
  · subst h0
    exact ⟨_, run_copy_none (P := Tryd.prog) _ 22 22 3 9 _ _ 0 0 0 c Tryd.underlying22 Tryd.size9 rfl, fun k hk => absurd hk (by omega), hbl⟩
  · obtain ⟨ad', e, hs⟩ := src_copied h hbl (by rw [strL_len]; omega)
    cases e
    have hr := run_copy_row (P := Tryd.prog) (w.alloc (.cells (madeCells #[.string ByteArray.empty] n) 9)) 22 22 3 9 w.heap.size 0 n n ad n c (madeCells #[.string ByteArray.empty] n) 9 (strL X n) Tryd.underlying22 Tryd.size9 (heap_alloc_new _ _) (by rw [strL_len]; exact (Nat.min_self _).symm) hs (by rw [strL_len, size_madeCells]; omega) (strL_one X n)
    have hnew : ((madeCells #[.string ByteArray.empty] n).toList.take 0 ++ strL X n ++ (madeCells #[.string ByteArray.empty] n).toList.drop (0 + (strL X n).length)) = splice (mk9 n) 0 (strL X n) := by simp [splice, mk9]
    rw [hnew, strL_len] at hr
    exact ⟨_, hr, rd_copied (setRow_heap _ _ _ _ 9 _ (heap_alloc_new _ _)), below_setRow hbl (Nat.le_refl _) _⟩

/-- The law returned true; nothing old has turned. -/
def RT (w : World) (e : Ending) (w' : World) : Prop := e = .returned (.bool true) ∧ Below w.heap.size w w'

set_option maxHeartbeats 2000000 in
set_option maxRecDepth 100000 in
theorem run_any (a1 a2 : Option Addr) (n1 n2 c1 c2 : Nat) (X V : Nat → ByteArray) (line m : Int) (w : World) (hn1 : n1 ≤ maxLen) (hn2 : n2 ≤ maxLen) (hS1 : ∀ k, k < n1 → (X k).size ≤ maxLen) (hS2 : ∀ k, k < n2 → (V k).size ≤ maxLen)
    (hr1 : Rd w a1 n1 X) (hr2 : Rd w a2 n2 V) (hm : w.cell? ⟨0, 0, none⟩ = some (.int .i64 m)) :
    Calls Tryd.prog 3 #[.slice a1 n1 c1, .slice a2 n2 c2, .int .i64 line] w fun e w' => RT w e w' := by
  have HR1 : Aside (Rd w a1 n1 X) := hr1
  have HR2 : Aside (Rd w a2 n2 V) := hr2
  have HM : Aside (w.cell? ⟨0, 0, none⟩ = some (.int .i64 m)) := hm
  have HZ := zzBytes6_any a1 a2 n1 c1 n2 c2 X V line w hn1 hn2 hS1 hS2 hr1 hr2
  have HB1 := stringsBytes_any a1 n1 c1 X w hn1 hS1 hr1
  have HB2 := stringsBytes_any a2 n2 c2 V w hn2 hS2 hr2
  clear hr1 hr2 hS1 hS2 hm
  unfold maxLen at hn1 hn2
  go_enter Tryd.func3, Tryd.ntmps3
  go_wp2_with fail
  refine HZ.mono ?_
  rintro e w' ⟨b, rfl, hw⟩
  have hw2 := hw.symm
  subst hw2
  clear hw HZ
  cases b with
  | false =>
    go_wp2
    go_ret
    exact ⟨rfl, Below.refl _ _⟩
  | true =>
    go_wp2_with fail
    refine HB1.mono ?_
    rintro e w' ⟨r1, rfl, hq1, hq2, hq3, hw⟩
    have hw2 := hw.symm
    subst hw2
    clear hw HB1
    have HQ1 : Aside (r1 ≤ 1048576 → n1 ≤ 65536 ∧ ∀ k, k < n1 → (X k).size ≤ 1048576) := hq3
    clear hq3
    go_wp2_with fail
    refine HB2.mono ?_
    rintro e w' ⟨r2, rfl, hq4, hq5, hq6, hw⟩
    have hw2 := hw.symm
    subst hw2
    clear hw HB2
    have HQ2 : Aside (r2 ≤ 1048576 → n2 ≤ 65536 ∧ ∀ k, k < n2 → (V k).size ≤ 1048576) := hq6
    clear hq6
    by_cases hbig : 1048576 < r1 + r2
    · go_wp2
      go_ret
      exact ⟨rfl, Below.refl _ _⟩
    obtain ⟨hn1', hX⟩ := HQ1.out (by omega)
    obtain ⟨hn2', hV⟩ := HQ2.out (by omega)
    have HXV : Aside ((∀ k, k < n1 → (X k).size ≤ 1048576) ∧ ∀ k, k < n2 → (V k).size ≤ 1048576) := ⟨hX, hV⟩
    clear HQ1 HQ2 hX hV
    by_cases hne : n1 = n2
    · subst hne
      have hmk := run_make_row' (P := Tryd.prog) 22 9 (.string ByteArray.empty) 16 Tryd.underlying22 Tryd.info9 rfl .i64 .i64 n1 (by omega) (by omega)
      have e1 := neq22 a1 n1 c1
      have e2 := neq22 a2 n1 c2
      go_upto_if 27 with fail
      go_cut [0, 7] (fun t _ wx => ∃ ao' c', t = .slice ao' n1 c' ∧ Rd wx ao' n1 X ∧ Below w.heap.size w wx)
      case first =>
        cases a1 with
        | none =>
          go_wp2
          go_meet
          case rel => exact ⟨none, c1, rfl, HR1.out, Below.refl _ _⟩
        | some ad =>
          obtain ⟨W', hcp, hg, hb⟩ := copy_run (c := c1) HR1.out
          have HG : Aside (Rd W' (some ⟨w.heap.size, 0, none⟩) n1 X ∧ Below w.heap.size w W') := ⟨hg, hb⟩
          clear hg hb
          go_wp2
          go_meet
          case rel => exact ⟨_, n1, rfl, HG.out.1, HG.out.2⟩
      case rest =>
        obtain ⟨a1', c1', rfl, hr1, hb1⟩ := hcut
        have HRX : Aside (Rd wc a1' n1 X) := hr1
        have HRV : Aside (Rd wc a2 n1 V) := HR2.out.later hb1
        have HB : Aside (Below w.heap.size w wc) := hb1
        clear hr1 hb1 HR1 HR2 e1
        go_upto_if 36 with fail
        go_cut [1, 8] (fun t _ wx => ∃ ao' c', t = .slice ao' n1 c' ∧ Rd wx ao' n1 V ∧ Below wc.heap.size wc wx)
        case first =>
          cases a2 with
          | none =>
            go_wp2
            go_meet
            case rel => exact ⟨none, c2, rfl, HRV.out, Below.refl _ _⟩
          | some ad =>
            obtain ⟨W', hcp, hg, hb⟩ := copy_run (c := c2) HRV.out
            have HG : Aside (Rd W' (some ⟨wc.heap.size, 0, none⟩) n1 V ∧ Below wc.heap.size wc W') := ⟨hg, hb⟩
            clear hg hb
            go_wp2
            go_meet
            case rel => exact ⟨_, n1, rfl, HG.out.1, HG.out.2⟩
        case rest =>
          clear hmk e2
          obtain ⟨a2', c2', rfl, hr2, hb2⟩ := hcut
          have HRX2 : Aside (Rd wc a1' n1 X) := HRX.out.later hb2
          have HRV2 : Aside (Rd wc a2' n1 V) := hr2
          have HB2 : Aside (Below w.heap.size w wc) := HB.out.trans (hb2.mono HB.out.size)
          clear HRX HRV HB hr2 hb2
          go_wp2_with fail
          refine (makeTemplate_any a1' a2' n1 c1' c2' X V line wc hn1' HRX2.out HRV2.out).mono ?_
          rintro e w3 ⟨B, rfl, hrow, hb3⟩
          have HROW : Aside (w3.rowIs B 41 (n1 * 2) (tf X V n1)) := hrow
          have HB3 : Aside (Below wc.heap.size wc w3) := hb3
          clear hrow hb3
          go_wp2_with fail
          refine (String_any B n1 X V line m _ hn1' (fun k hk => ⟨HXV.out.1 k hk, HXV.out.2 k hk⟩) (HROW.out.alloc _) (cell_later ((Below.refl _ _).alloc (Nat.le_refl _) _) (cell_later HB3.out (cell_later HB2.out HM.out)))).mono ?_
          rintro e w4 ⟨rfl, hb4⟩
          have HB4 : Aside (Below wc.heap.size wc w4) := (HB3.out.alloc HB3.out.size _).trans (hb4.mono (by have := HB3.out.size; simp; omega))
          clear hb4 HROW HB3
          go_wp2_with fail
          refine (model_any a1' a2' n1 c1' c2' X V w4 hn1' (fun k hk => ⟨HXV.out.1 k hk, HXV.out.2 k hk⟩) (HRX2.out.later HB4.out) (HRV2.out.later HB4.out)).mono ?_
          rintro e w5 ⟨v, rfl, hob⟩
          have hcv := run_conv_ob hob
          have HB5 : Aside (Below w.heap.size w w5) := HB2.out.trans ((HB4.out.trans (hob.2.mono HB4.out.size)).mono HB2.out.size)
          clear hob HB4 HRX2 HRV2 HB2
          go_wp2
          go_ret
          refine ⟨ret_bool ?_, HB5.out⟩
          simp
    · have hne' : ((n1 : Int) != (n2 : Int)) = true := by simp [bne]; omega
      go_wp2
      go_ret
      exact ⟨rfl, Below.refl _ _⟩
end Go.Proofs.Qxb6604277aDoor
