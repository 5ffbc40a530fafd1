import Derived.Test.Qxb6604277aDoorA7
import Derived.Test.Qxb6604277aDoorB1
namespace Go.Proofs.Qxb6604277aDoor
open Go.RowKit

def dd (v : List UInt8) : List UInt8 := [36, 36] ++ (v ++ [36, 36])
def dd2 (v : ByteArray) : ByteArray := { data := #[36, 36] } ++ v ++ { data := #[36, 36] }
theorem dd2_list (v : ByteArray) : (dd2 v).data.toList = dd v.data.toList := by simp [dd2, dd]
theorem dd2_size (v : ByteArray) : (dd2 v).size = v.size + 4 := by rw [Lib.size_eq, dd2_list, Lib.size_eq v]; simp [dd]

/-- THE MAP BEHIND k ROUNDS: block Bm; each variable that was met holds its placeholder's text. -/
def PM (wq : World) (Bm : Nat) (V : Nat → ByteArray) (k : Nat) (wi : World) : Prop :=
  (∃ D : DataW Unit, wi.ownsMap Tryd.prog 9 (plainElem Tryd.prog 9) Bm k D ∧ ∀ j, j < k → (V j).toList.isEmpty = false → D.atKey (.string (V j).data.toList) (.lit (.string [])) = .lit (.string (dd (V j).data.toList))) ∧ Below Bm wq wi ∧ Bm < wi.heap.size
theorem pm_start (wq : World) (V : Nat → ByteArray) : PM wq wq.heap.size V 0 (wq.alloc (.map #[] 0)) :=
  ⟨⟨.map [], World.ownsMap_made _ _ _ _, fun j hj => absurd hj (by omega)⟩, (Below.refl _ _).alloc (Nat.le_refl _) _, by simp⟩
theorem PM.skip {wq wi : World} {Bm : Nat} {V : Nat → ByteArray} {k : Nat} (h : PM wq Bm V k wi) (hv : (V k).toList.isEmpty = true) : PM wq Bm V (k + 1) wi := by
  obtain ⟨⟨D, h1, h2⟩, h3⟩ := h
  refine ⟨⟨D, h1.mono (by omega), fun j hj hne => ?_⟩, h3⟩
  by_cases e : j = k
  · subst e; rw [hv] at hne; cases hne
  · exact h2 j (by omega) hne
theorem PM.put {wq wi : World} {Bm : Nat} {V : Nat → ByteArray} {k : Nat} (h : PM wq Bm V k wi) (hv : (V k).toList.isEmpty = false) (hs : (V k).size ≤ 1048576) (hk : k ≤ 65536) :
    ∃ w1, (Instr.mapUpdate 32 (.map (some Bm)) (.string (V k)) (.string ({ data := #[36, 36] } ++ V k ++ { data := #[36, 36] }))).run Tryd.prog wi.drew = .ok () w1 ∧ PM wq Bm V (k + 1) w1 := by
  obtain ⟨⟨D, h1, h2⟩, h3, h4⟩ := h
  obtain ⟨w1, hrun, r1, r2⟩ := h1.drew.update law9 Tryd.underlying32 (by unfold maxLen; omega) (WideMaps.keyOf_string_mk (s := V k) Tryd.underlying9 (by unfold maxLen; omega)) (plainElem_string (s := dd2 (V k)) Tryd.underlying9 (by rw [dd2_size]; unfold maxLen; omega))
  rw [dd2_list] at r1
  refine ⟨w1, hrun, ⟨_, r1, fun j hj hne => ?_⟩, h3.drew.grown r2 (by simpa using (by omega : Bm ≤ wi.heap.size)) (fun q hq => by cases hq; exact Nat.le_refl _), Nat.lt_of_lt_of_le h4 (by simpa using r2.size)⟩
  by_cases e : (V j).data.toList = (V k).data.toList
  · rw [e, Maps.atKey_put_same h1.isMap (law9.key (WideMaps.keyOf_string_mk (s := V k) Tryd.underlying9 (by unfold maxLen; omega)))]
  · rw [Maps.atKey_put_other (by simpa using e)]
    refine h2 j ?_ hne
    by_cases e2 : j = k
    · subst e2; exact absurd rfl e
    · omega

theorem esc_none : ∀ (l : List UInt8), (∀ i : Nat, ¬ (l[i]? = some 36 ∧ l[i + 1]? = some 36)) → esc l = l
  | [], _ => by simp [esc]
  | [a], _ => by simp [esc]
  | a :: b :: t, h => by
    rw [esc, if_neg (fun hh => h 0 (by simp [hh.1, hh.2])), esc_none (b :: t) (fun i hi => h (i + 1) (by simpa using hi))]
theorem dolAt_of {x : ByteArray} {i : Nat} (h : x.data.toList[i]? = some 36) : dolAt x i = true := by
  obtain ⟨hi, he⟩ := List.getElem?_eq_some_iff.1 h
  have hx : i < x.size := by rw [Lib.size_eq]; exact hi
  rw [dolAt_in hx, dol_eq]
  have : x[i] = 36 := he
  rw [this]; rfl
theorem fo_so (X V : Nat → ByteArray) (L : ByteArray → ByteArray) : ∀ k, (∀ j, j < k → (V j).toList.isEmpty = false → L (V j) = dd2 (V j)) → (∀ j, j < k → (V j).toList.isEmpty = true → ∀ i, ¬ (dolAt (X j) i = true ∧ dolAt (X j) (i + 1) = true)) → fo X V L k = so X V k
  | 0, _, _ => rfl
  | k + 1, h1, h2 => by
    rw [fo, so, fo_so X V L k (fun j hj => h1 j (by omega)) (fun j hj => h2 j (by omega)), pFill, pOut]
    congr 1
    cases hv : (V k).data.toList.isEmpty with
    | true =>
      rw [if_pos rfl, if_pos rfl]
      exact (esc_none _ (fun i hi => h2 k (by omega) (by rw [empty_eq, hv]) i ⟨dolAt_of hi.1, dolAt_of hi.2⟩)).symm
    | false =>
      rw [if_neg (by simp), if_neg (by simp), h1 k (by omega) (by rw [empty_eq, hv]), dd2_list]; rfl
theorem ld_dd {D : DataW Unit} {v : ByteArray} (h : D.atKey (.string v.data.toList) (.lit (.string [])) = .lit (.string (dd v.data.toList))) : LD D v = dd2 v := by
  rw [LD, h, strOfD]
  apply ba_eq
  rw [dd2_list]
theorem row_later {w wx : World} {B t n : Nat} {f : Nat → Value} (hx : Below w.heap.size w wx) (h : w.rowIs B t n f) : wx.rowIs B t n f := by
  have hlt := h.lt
  obtain ⟨c, hc, h2⟩ := h
  exact ⟨c, (hx.block B hlt).trans hc, h2⟩
theorem own_later {w wx : World} {b n : Nat} {D : DataW Unit} (hx : Below w.heap.size w wx) (h : w.ownsMap Tryd.prog 9 (plainElem Tryd.prog 9) b n D) : wx.ownsMap Tryd.prog 9 (plainElem Tryd.prog 9) b n D := by
  have hlt := h.lt
  obtain ⟨es, clock, hb, F, hs, hD⟩ := h
  exact ⟨es, clock, (hx.block b hlt).trans hb, F, hs, hD⟩

set_option maxHeartbeats 2000000 in
set_option maxRecDepth 100000 in
theorem place_any (a1 a2 : Option Addr) (n1 n2 c1 c2 : Nat) (X V : Nat → ByteArray) (line m : Int) (w : World) (hn1 : n1 ≤ maxLen) (hn2 : n2 ≤ maxLen) (hS1 : ∀ k, k < n1 → (X k).size ≤ maxLen) (hS2 : ∀ k, k < n2 → (V k).size ≤ maxLen)
    (hr1 : Rd w a1 n1 X) (hr2 : Rd w a2 n2 V) (hm : w.cell? ⟨0, 0, none⟩ = some (.int .i64 m)) :
    Calls Tryd.prog 5 #[.slice a1 n1 c1, .slice a2 n2 c2, .int .i64 line] w fun e w' => RT w e w' := by
  have HR1 : Aside (Rd w a1 n1 X) := hr1
  have HR2 : Aside (Rd w a2 n2 V) := hr2
  have HM : Aside (w.cell? ⟨0, 0, none⟩ = some (.int .i64 m)) := hm
  have HZ := zzBytes15_any a1 a2 n1 c1 n2 c2 X V line w hn1 hn2 hS1 hS2 hr1 hr2
  have HB1 := stringsBytes_any a1 n1 c1 X w hn1 hS1 hr1
  have HB2 := stringsBytes_any a2 n2 c2 V w hn2 hS2 hr2
  clear hr1 hr2 hS1 hS2 hm
  unfold maxLen at hn1 hn2
  go_enter Tryd.func5, Tryd.ntmps5
  go_wp2_with fail
  refine HZ.mono ?_
  rintro e w' ⟨b, rfl, hw⟩
  have hw2 := hw.symm
  subst hw2
  clear hw HZ
  cases b with
  | false =>
    go_wp2
    go_ret
    exact ⟨rfl, Below.refl _ _⟩
  | true =>
    go_wp2_with fail
    refine HB1.mono ?_
    rintro e w' ⟨r1, rfl, hq1, hq2, hq3, hw⟩
    have hw2 := hw.symm
    subst hw2
    clear hw HB1
    have HQ1 : Aside (r1 ≤ 1048576 → n1 ≤ 65536 ∧ ∀ k, k < n1 → (X k).size ≤ 1048576) := hq3
    clear hq3
    go_wp2_with fail
    refine HB2.mono ?_
    rintro e w' ⟨r2, rfl, hq4, hq5, hq6, hw⟩
    have hw2 := hw.symm
    subst hw2
    clear hw HB2
    have HQ2 : Aside (r2 ≤ 1048576 → n2 ≤ 65536 ∧ ∀ k, k < n2 → (V k).size ≤ 1048576) := hq6
    clear hq6
    by_cases hbig : 1048576 < r1 + r2
    · go_wp2
      go_ret
      exact ⟨rfl, Below.refl _ _⟩
    obtain ⟨hn1', hX⟩ := HQ1.out (by omega)
    obtain ⟨hn2', hV⟩ := HQ2.out (by omega)
    have HXV : Aside ((∀ k, k < n1 → (X k).size ≤ 1048576) ∧ ∀ k, k < n2 → (V k).size ≤ 1048576) := ⟨hX, hV⟩
    clear HQ1 HQ2 hX hV
    by_cases hne : n1 = n2
    · subst hne
      have hmk := run_make_row' (P := Tryd.prog) 22 9 (.string ByteArray.empty) 16 Tryd.underlying22 Tryd.info9 rfl .i64 .i64 n1 (by omega) (by omega)
      have e1 := neq22 a1 n1 c1
      have e2 := neq22 a2 n1 c2
      go_upto_if 30 with fail
      go_cut [0, 7] (fun t _ wx => ∃ ao' c', t = .slice ao' n1 c' ∧ Rd wx ao' n1 X ∧ Below w.heap.size w wx)
      case first =>
        cases a1 with
        | none =>
          go_wp2
          go_meet
          case rel => exact ⟨none, c1, rfl, HR1.out, Below.refl _ _⟩
        | some ad =>
          obtain ⟨W', hcp, hg, hb⟩ := copy_run (c := c1) HR1.out
          have HG : Aside (Rd W' (some ⟨w.heap.size, 0, none⟩) n1 X ∧ Below w.heap.size w W') := ⟨hg, hb⟩
          clear hg hb
          go_wp2
          go_meet
          case rel => exact ⟨_, n1, rfl, HG.out.1, HG.out.2⟩
      case rest =>
        obtain ⟨a1', c1', rfl, hr1, hb1⟩ := hcut
        have HRX : Aside (Rd wc a1' n1 X) := hr1
        have HRV : Aside (Rd wc a2 n1 V) := HR2.out.later hb1
        have HB : Aside (Below w.heap.size w wc) := hb1
        clear hr1 hb1 HR1 HR2 e1
        go_upto_if 39 with fail
        go_cut [1, 8] (fun t _ wx => ∃ ao' c', t = .slice ao' n1 c' ∧ Rd wx ao' n1 V ∧ Below wc.heap.size wc wx)
        case first =>
          cases a2 with
          | none =>
            go_wp2
            go_meet
            case rel => exact ⟨none, c2, rfl, HRV.out, Below.refl _ _⟩
          | some ad =>
            obtain ⟨W', hcp, hg, hb⟩ := copy_run (c := c2) HRV.out
            have HG : Aside (Rd W' (some ⟨wc.heap.size, 0, none⟩) n1 V ∧ Below wc.heap.size wc W') := ⟨hg, hb⟩
            clear hg hb
            go_wp2
            go_meet
            case rel => exact ⟨_, n1, rfl, HG.out.1, HG.out.2⟩
        case rest =>
          clear hmk e2
          obtain ⟨a2', c2', rfl, hr2, hb2⟩ := hcut
          have HRX2 : Aside (Rd wc a1' n1 X) := HRX.out.later hb2
          have HRV2 : Aside (Rd wc a2' n1 V) := hr2
          have HB2 : Aside (Below w.heap.size w wc) := HB.out.trans (hb2.mono HB.out.size)
          clear HRX HRV HB hr2 hb2
          go_wp2_with fail
          go_loopg [9] n1 (fun kk ix wr => wr = wc ∧ ∃ k : Nat, kk = n1 - k ∧ k ≤ n1 ∧ ix = .int .i64 k ∧ ∀ j, j < k → (V j).toList.isEmpty = true → ∀ i, ¬ (dolAt (X j) i = true ∧ dolAt (X j) (i + 1) = true))
          case atStart => exact ⟨rfl, 0, rfl, Nat.zero_le _, rfl, fun j hj => absurd hj (by omega)⟩
          case round =>
            obtain ⟨hwr, k, rfl, hk, rfl, hno⟩ := hrel
            subst hwr
            have HN : Aside (∀ j, j < k → (V j).toList.isEmpty = true → ∀ i, ¬ (dolAt (X j) i = true ∧ dolAt (X j) (i + 1) = true)) := hno
            clear hno
            by_cases hlt : k < n1
            · obtain ⟨b1, o1, rfl, q1⟩ := HRX2.out k hlt
              obtain ⟨b2, o2, rfl, q2⟩ := HRV2.out k hlt
              have hlt3 : (k : Int) < (n1 : Int) := by omega
              have hxs := HXV.out.1 k hlt
              have HDD := hasDD_any (X k) wr hxs
              have hsn : (((V k).toList.isEmpty = true → ∀ i, ¬ (dolAt (X k) i = true ∧ dolAt (X k) (i + 1) = true)) → ∀ j, j < k + 1 → (V j).toList.isEmpty = true → ∀ i, ¬ (dolAt (X j) i = true ∧ dolAt (X j) (i + 1) = true)) := fun h j hj => by
                by_cases e : j = k
                · subst e; exact h
                · exact HN.out j (by omega)
              have HSN : Aside (((V k).toList.isEmpty = true → ∀ i, ¬ (dolAt (X k) i = true ∧ dolAt (X k) (i + 1) = true)) → ∀ j, j < k + 1 → (V j).toList.isEmpty = true → ∀ i, ¬ (dolAt (X j) i = true ∧ dolAt (X j) (i + 1) = true)) := hsn
              clear hsn
              cases hvE : (V k).toList.isEmpty with
              | false =>
                clear HDD
                go_wp2
                go_roundg (n1 - (k + 1))
                case measure => omega
                case rel => exact ⟨rfl, k + 1, rfl, by omega, by go_num, HSN.out (fun h => by rw [hvE] at h; cases h)⟩
              | true =>
                go_wp2_with fail
                refine HDD.mono ?_
                rintro e w' ⟨b, rfl, hb, hw⟩
                obtain rfl := hw.symm
                have HBd : Aside (b = false → ∀ i, ¬ (dolAt (X k) i = true ∧ dolAt (X k) (i + 1) = true)) := hb
                clear hb hw HDD
                cases b with
                | true =>
                  go_wp2
                  go_ret
                  exact ⟨rfl, HB2.out⟩
                | false =>
                  have HBe : Aside (∀ i, ¬ (dolAt (X k) i = true ∧ dolAt (X k) (i + 1) = true)) := HBd.out rfl
                  clear HBd
                  go_wp2
                  go_roundg (n1 - (k + 1))
                  case measure => omega
                  case rel => exact ⟨rfl, k + 1, rfl, by omega, by go_num, HSN.out (fun _ => HBe.out)⟩
            · obtain rfl : k = n1 := by omega
              have hmm := @run_makeMap Tryd.prog
              obtain ⟨wq, hwq⟩ : ∃ wq, wq = wr := ⟨_, rfl⟩
              subst hwq
              go_wp2_with fail
              clear hmm
              generalize hBm : wq.heap.size = Bm
              have HBm : Aside (wq.heap.size = Bm) := hBm
              have hst : PM wq Bm V 0 (wq.alloc (.map #[] 0)) := by rw [← hBm]; exact pm_start wq V
              have HST : Aside (PM wq Bm V 0 (wq.alloc (.map #[] 0))) := hst
              clear hst hBm
              go_loopg [11] k (fun kk ix wi => ∃ k2 : Nat, kk = k - k2 ∧ k2 ≤ k ∧ ix = .int .i64 k2 ∧ PM wq Bm V k2 wi)
              case atStart => exact ⟨0, rfl, Nat.zero_le _, rfl, HST.out⟩
              case round =>
                clear HST
                obtain ⟨k2, rfl, hk2, rfl, hP⟩ := hrel
                have HP : Aside (PM wq Bm V k2 wr) := hP
                by_cases hlt2 : k2 < k
                · obtain ⟨b2, o2, rfl, q2⟩ := HRV2.out k2 hlt2
                  have q3 := cell_later (HBm.out ▸ hP.2.1) q2
                  have hlt3 : (k2 : Int) < (k : Int) := by omega
                  have hvs := HXV.out.2 k2 hlt2
                  cases hvE : (V k2).toList.isEmpty with
                  | true =>
                    have HP2 : Aside (PM wq Bm V (k2 + 1) wr) := hP.skip hvE
                    clear hP q2
                    go_wp2
                    go_roundg (k - (k2 + 1))
                    case measure => omega
                    case rel => exact ⟨k2 + 1, rfl, by omega, by go_num, HP2.out⟩
                  | false =>
                    obtain ⟨w1, hup, hP2⟩ := hP.put hvE hvs (by omega)
                    have HP2 : Aside (PM wq Bm V (k2 + 1) w1) := hP2
                    clear hP q2 hP2
                    generalize V k2 = v at *
                    go_wp2_with fail
                    go_region
                    all_goals go_wp2
                    all_goals go_roundg (k - (k2 + 1))
                    all_goals first | (case measure => omega) | skip
                    all_goals exact ⟨k2 + 1, rfl, by omega, by go_num, HP2.out⟩
                · obtain rfl : k2 = k := by omega
                  have hBq : Below wq.heap.size wq wr := HBm.out ▸ hP.2.1
                  clear hP
                  go_wp2_with fail
                  refine (makeTemplate_any a1' a2' k2 c1' c2' X V line wr hn1' (HRX2.out.later hBq) (HRV2.out.later hBq)).mono ?_
                  rintro e w3 ⟨B, rfl, hrow, hb3⟩
                  have HROW : Aside (w3.rowIs B 41 (k2 * 2) (tf X V k2)) := hrow
                  have HB3 : Aside (Below wr.heap.size wr w3) := hb3
                  have HBQ : Aside (Below wq.heap.size wq wr) := hBq
                  clear hrow hb3 hBq
                  go_wp2_with fail
                  obtain ⟨⟨D, hD, hDk⟩, hPb, hBl⟩ := HP.out
                  have hmz : ∀ j, j < k2 → (V j).toList.isEmpty = false → LD D (V j) = dd2 (V j) := fun j hj hne => ld_dd (hDk j hj hne)
                  have hfs := fo_so X V (LD D) k2 (fun j hj hne => hmz j hj hne) HN.out
                  have HFS : Aside (fo X V (LD D) k2 = so X V k2) := hfs
                  generalize hW : w3.alloc (Obj.cells #[Value.slice (some { block := B, off := 0 }) k2 k2, Value.int IntKind.i64 line] 27) = W
                  have hbW : Below wr.heap.size wr W := by rw [← hW]; exact HB3.out.alloc HB3.out.size _
                  have hrW : W.rowIs B 41 (k2 * 2) (tf X V k2) := by rw [← hW]; exact HROW.out.alloc _
                  have HCE : Aside (∀ wx, Below W.heap.size W wx → wx.cell? ⟨w3.heap.size, 0, none⟩ = some (.slice (some ⟨B, 0, none⟩) k2 k2) ∧ wx.cell? ⟨w3.heap.size, 1, none⟩ = some (.int .i64 line)) := fun wx hx =>
                    ⟨cell_later hx (by rw [← hW]; exact cell_two_new _ _ _ _ 0 _ rfl), cell_later hx (by rw [← hW]; exact cell_two_new _ _ _ _ 1 _ rfl)⟩
                  have HCF : Aside (∀ wx, Below W.heap.size W wx → Calls Tryd.prog 13 #[.agg #[.slice (some ⟨B, 0, none⟩) k2 k2, .int .i64 line], .map (some Bm)] wx fun e w' => RetS wx (so X V k2) e w') := fun wx hx => by
                    rw [← HFS.out]
                    exact Fill_any B k2 X V _ (some Bm) rfl (LD D) line wx hn1' (fun j hj => ⟨by have := HXV.out.1 j hj; omega, fun hne => by rw [hmz j hj hne, dd2_size]; have := HXV.out.2 j hj; omega⟩) (fun j hj => by have := HXV.out.2 j hj; unfold maxLen; omega)
                      (row_later hx hrW) (fun wy hy => looks_own (own_later (hbW.trans ((hx.trans (hy.mono hx.size)).mono hbW.size)) hD))
                  have HCS : Aside (∀ wx, Below W.heap.size W wx → Calls Tryd.prog 9 #[.agg #[.slice (some ⟨B, 0, none⟩) k2 k2, .int .i64 line]] wx fun e w' => RetS wx (so X V k2) e w') := fun wx hx =>
                    String_any B k2 X V line m wx hn1' (fun j hj => ⟨HXV.out.1 j hj, HXV.out.2 j hj⟩) (row_later hx hrW) (cell_later hx (cell_later hbW (cell_later HBQ.out (cell_later HB2.out HM.out))))
                  have HBW : Aside (Below w.heap.size w W) := HB2.out.trans ((HBQ.out.trans (hbW.mono HBQ.out.size)).mono HB2.out.size)
                  obtain ⟨q1, q2⟩ := HCE.out W (Below.refl _ _)
                  clear hW hbW hrW hmz hfs HFS hD hDk hPb hBl HROW HB3 HBQ HRX2 HRV2 HN HP
                  go_region_with (first
                    | (go_at_call 13; refine (HCF.out _ (Below.refl W.heap.size W).drew).mono ?_; rintro e w4 ⟨rfl, hb4⟩; have hb5 := (Below.refl W.heap.size W).drew.trans hb4; obtain ⟨q3, q4⟩ := HCE.out _ hb5; have HB5 : Aside (Below W.heap.size W w4) := hb5; clear hb4 hb5)
                    | (go_at_call 9; refine (HCS.out _ (Below.refl W.heap.size W).drew).mono ?_; rintro e w4 ⟨rfl, hb4⟩; have hb5 := (Below.refl W.heap.size W).drew.trans hb4; obtain ⟨q3, q4⟩ := HCE.out _ hb5; have HB5 : Aside (Below W.heap.size W w4) := hb5; clear hb4 hb5)
                    | (go_at_call 13; refine (HCF.out _ HB5.out).mono ?_; rintro e w5 ⟨rfl, hb6⟩; have HB6 : Aside (Below W.heap.size W w5) := HB5.out.trans (hb6.mono HB5.out.size); clear hb6)
                    | (go_at_call 9; refine (HCS.out _ HB5.out).mono ?_; rintro e w5 ⟨rfl, hb6⟩; have HB6 : Aside (Below W.heap.size W w5) := HB5.out.trans (hb6.mono HB5.out.size); clear hb6))
                  all_goals have HB7 : Aside (Below w.heap.size w w5) := HBW.out.trans (HB6.out.mono HBW.out.size)
                  all_goals clear HCE HCF HCS HB6 HB5 HBW q1 q2 q3 q4
                  all_goals go_wp2
                  all_goals go_ret
                  all_goals exact ⟨rfl, HB7.out⟩
    · have hne' : ((n1 : Int) != (n2 : Int)) = true := by simp [bne]; omega
      go_wp2
      go_ret
      exact ⟨rfl, Below.refl _ _⟩
end Go.Proofs.Qxb6604277aDoor
