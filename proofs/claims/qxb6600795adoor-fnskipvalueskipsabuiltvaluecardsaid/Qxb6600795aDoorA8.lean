import Derived.Test.Qxb6600795aDoorA7
namespace Go.Proofs.Qxb6600795aDoor
open Go.RowKit

theorem fin_len : ∀ {d : Nat} {l : List UInt8}, Fin' d l → d ≤ l.length := by
  intro d l h
  induction h with
  | oth d c t _ _ _ _ _ _ ih => simp; omega
  | opn d c t _ _ ih => simp; omega
  | cls d c t _ _ _ ih => simp; omega
  | last c _ => simp
  | str d b t _ _ ih => simp; omega
theorem at_drop' {w : World} {g : Nat} {T : List UInt8} (h : At w g T) {i k : Nat} {l : List UInt8} (hd : T.drop i = l) {c : UInt8} (hk : l[k]? = some c) : w.cell? ⟨g, i + k, none⟩ = some (.int .u8 c.toNat) := by
  refine h (i + k) c ?_
  rw [← List.getElem?_drop, hd]
  exact hk

set_option maxHeartbeats 1000000 in
set_option maxRecDepth 100000 in
theorem skip_str (g cap : Nat) (T : List UInt8) (i : Nat) (v r : List UInt8) (w : World) (hT : T.length ≤ 1048577) (hA : At w g T) (hd : T.drop i = v ++ r) (hv : Str v) :
    Calls Tryd.prog 12 #[.slice (some ⟨g, 0, none⟩) T.length cap, .int .i64 i] w fun e w' => RetX w (i + v.length) e w' := by
  obtain ⟨b, rfl, hb, _⟩ := hv
  obtain ⟨hi, hc⟩ := hA.at' hd
  have hc' : w.cell? ⟨g, i, none⟩ = some (.int .u8 34) := hc
  have HC := skipString_any g cap T i b r w hT hA hb (drop_next hd) hi
  clear hA hd hc hb
  go_enter Tryd.func12, Tryd.ntmps12
  go_wp2_with fail
  refine HC.mono ?_
  rintro e w' ⟨rfl, hw⟩
  obtain rfl := hw.symm
  clear hw HC
  go_wp2
  go_ret
  exact ⟨ret_int (by simp; omega), Below.refl _ _⟩

set_option maxHeartbeats 1000000 in
set_option maxRecDepth 100000 in
theorem skip_sc (g cap : Nat) (T : List UInt8) (i : Nat) (v : List UInt8) (sep : UInt8) (r : List UInt8) (w : World) (hT : T.length ≤ 1048577) (hcap : T.length ≤ cap) (hA : At w g T) (hd : T.drop i = v ++ sep :: r) (hs : sepQ sep = true) (hv : Sc v) :
    Calls Tryd.prog 12 #[.slice (some ⟨g, 0, none⟩) T.length cap, .int .i64 i] w fun e w' => RetX w (i + v.length) e w' := by
  have hlen := congrArg List.length hd
  simp only [List.length_drop, List.length_append, List.length_cons] at hlen
  have hprop : (∀ x ∈ v, sepQ x = false ∧ x.toNat < 128) ∧ v ≠ [] ∧ ∃ c t, v = c :: t ∧ c ≠ 34 ∧ c ≠ 123 ∧ c ≠ 91 := by
    simp only [Sc, scals, List.mem_cons, List.not_mem_nil, or_false] at hv
    rcases hv with rfl | rfl | rfl | rfl | rfl
    all_goals exact ⟨by decide, by decide, _, _, rfl, by decide, by decide, by decide⟩
  obtain ⟨hp1, hp2, c, t, rfl, n1, n2, n3⟩ := hprop
  simp only [List.length_cons] at hlen
  obtain ⟨hi, hc⟩ := hA.at' hd
  have HC := indexAny_any g i (T.length - i) (cap - i) (c :: t).length (fun k => (c :: t ++ sep :: r).getD k 0) w (fun k hk => by
      have hk2 : k < (c :: t ++ sep :: r).length := by simp at hk ⊢; omega
      refine at_drop' hA hd ?_
      rw [List.getD_eq_getElem?_getD, List.getElem?_eq_getElem hk2]; rfl) (by omega) (by omega) (by simp; omega) (fun k hk => by
      show sepQ ((c :: t ++ sep :: r).getD k 0) = false ∧ ((c :: t ++ sep :: r).getD k 0).toNat < 128
      rw [List.getD_eq_getElem?_getD, List.getElem?_append_left hk, List.getElem?_eq_getElem hk]
      exact hp1 _ (List.getElem_mem hk)) (by
      show sepQ ((c :: t ++ sep :: r).getD (c :: t).length 0) = true
      rw [List.getD_eq_getElem?_getD, List.getElem?_append_right (Nat.le_refl _)]
      simpa using hs)
  have e1 : ((c.toNat : Int) == 34) = false := ne_of (d := 34) n1
  have e2 : ((c.toNat : Int) == 123) = false := ne_of (d := 123) n2
  have e3 : ((c.toNat : Int) == 91) = false := ne_of (d := 91) n3
  have hmb : (c :: t).length ≤ 1048577 := by simp; omega
  generalize (c :: t).length = m at *
  clear hA hd hp1 hp2 n1 n2 n3 hlen hs hv
  have hic : i < cap := by omega
  go_enter Tryd.func12, Tryd.ntmps12
  go_wp2_with fail
  refine HC.mono ?_
  rintro e w' ⟨rfl, hw⟩
  have HW : Aside (Below w.heap.size w w') := hw
  clear hw HC
  go_wp2
  go_ret
  exact ⟨ret_int (by omega), HW.out⟩

/-- the loop's state: at j, depth d. -/
def CS (T : List UInt8) (r : List UInt8) (E : Nat) (j d : Nat) (l : List UInt8) : Prop := T.drop j = l ++ r ∧ Fin' d l ∧ j + l.length = E

set_option maxHeartbeats 1000000 in
set_option maxRecDepth 100000 in
theorem skip_cont (g cap : Nat) (T : List UInt8) (i : Nat) (v r : List UInt8) (w : World) (hT : T.length ≤ 1048577) (hA : At w g T) (hd : T.drop i = v ++ r) (hv : ∃ o t, v = o :: t ∧ (o = 123 ∨ o = 91) ∧ Fin' 1 t) :
    Calls Tryd.prog 12 #[.slice (some ⟨g, 0, none⟩) T.length cap, .int .i64 i] w fun e w' => RetX w (i + v.length) e w' := by
  obtain ⟨o, t, hvt, ho, ht⟩ := hv
  have hfin : Fin' 0 v := by rw [hvt]; exact .opn 0 o t ho ht
  have hC : CS T r (i + v.length) i 0 v := ⟨hd, hfin, rfl⟩
  have HCs : Aside (CS T r (i + v.length) i 0 v) := hC
  have HA : Aside (At w g T) := hA
  rw [hvt] at hd
  obtain ⟨hi, hc⟩ := hA.at' hd
  have hEb : i + v.length ≤ T.length := by
    have hlen := congrArg List.length hd
    rw [hvt]
    simp only [List.length_drop, List.length_append, List.length_cons] at hlen ⊢
    omega
  generalize hE : i + v.length = E at *
  have e1 : ((o.toNat : Int) == 34) = false := ne_of (d := 34) (by rcases ho with rfl | rfl <;> decide)
  clear hd hA hC hfin hvt ht hE
  have hsome : ((o.toNat : Int) == 123) = true ∨ (((o.toNat : Int) == 123) = false ∧ ((o.toNat : Int) == 91) = true) := by
    rcases ho with rfl | rfl
    · left; rfl
    · right; exact ⟨rfl, rfl⟩
  go_enter Tryd.func12, Tryd.ntmps12
  go_upto_if 15 with fail
  go_cut [15] (fun b wx => b = .bool true ∧ wx = w)
  case first =>
    rcases hsome with h1 | ⟨h1, h2⟩
    · go_wp2
      go_meet
      case rel => exact ⟨by rw [h1], rfl⟩
    · go_wp2
      go_meet
      case rel => exact ⟨by first | rfl | rw [h2], rfl⟩
  case rest =>
    obtain ⟨rfl, hwc⟩ := hcut
    subst hwc
    clear hsome hc e1 ho
    go_wp2_with fail
    go_loopg [1, 5] v.length (fun kk ix sd wr => wr = wc ∧ ∃ (j d : Nat) (l : List UInt8), kk = l.length ∧ ix = .int .i64 j ∧ sd = .int .i64 d ∧ CS T r E j d l)
    case atStart => exact ⟨rfl, i, 0, v, rfl, rfl, rfl, HCs.out⟩
    case round =>
      clear HCs
      obtain ⟨hwr, j, d, l, rfl, rfl, rfl, hd, hf, hE⟩ := hrel
      subst hwr
      have hdl := fin_len hf
      cases hf with
      | oth d c t n1 n2 n3 n4 n5 hf =>
        obtain ⟨hj, hcell⟩ := HA.out.at' hd
        have e1 : ((c.toNat : Int) == 34) = false := ne_of (d := 34) n1
        have e2 : ((c.toNat : Int) == 123) = false := ne_of (d := 123) n2
        have e3 : ((c.toNat : Int) == 91) = false := ne_of (d := 91) n3
        have e4 : ((c.toNat : Int) == 125) = false := ne_of (d := 125) n4
        have e5 : ((c.toNat : Int) == 93) = false := ne_of (d := 93) n5
        have HS : Aside (CS T r E (j + 1) d t) := ⟨drop_next hd, hf, by simp at hE; omega⟩
        clear hd hf n1 n2 n3 n4 n5
        go_wp2
        go_roundg t.length
        case measure => simp
        case rel => exact ⟨rfl, j + 1, d, t, rfl, by go_num, rfl, HS.out⟩
      | opn d c t hcc hf =>
        obtain ⟨hj, hcell⟩ := HA.out.at' hd
        have HS : Aside (CS T r E (j + 1) (d + 1) t) := ⟨drop_next hd, hf, by simp at hE; omega⟩
        have hdb : d ≤ 1048577 := by simp at hE hdl; omega
        clear hd hf
        rcases hcc with rfl | rfl
        · have hcell' : wr.cell? ⟨g, j, none⟩ = some (.int .u8 123) := hcell
          clear hcell
          go_wp2
          go_roundg t.length
          case measure => simp
          case rel => exact ⟨rfl, j + 1, d + 1, t, rfl, by go_num, by go_num, HS.out⟩
        · have hcell' : wr.cell? ⟨g, j, none⟩ = some (.int .u8 91) := hcell
          clear hcell
          go_wp2
          go_roundg t.length
          case measure => simp
          case rel => exact ⟨rfl, j + 1, d + 1, t, rfl, by go_num, by go_num, HS.out⟩
      | cls d c t hcc hd1 hf =>
        obtain ⟨hj, hcell⟩ := HA.out.at' hd
        have HS : Aside (CS T r E (j + 1) d t) := ⟨drop_next hd, hf, by simp at hE; omega⟩
        have hdb : d ≤ 1048577 := by simp at hE hdl; omega
        have hdz : ((d : Int) == 0) = false := beq_eq_false_iff_ne.2 (by omega)
        clear hd hf
        rcases hcc with rfl | rfl
        · have hcell' : wr.cell? ⟨g, j, none⟩ = some (.int .u8 125) := hcell
          clear hcell
          go_wp2
          go_roundg t.length
          case measure => simp
          case rel => exact ⟨rfl, j + 1, d, t, rfl, by go_num, by go_num, HS.out⟩
        · have hcell' : wr.cell? ⟨g, j, none⟩ = some (.int .u8 93) := hcell
          clear hcell
          go_wp2
          go_roundg t.length
          case measure => simp
          case rel => exact ⟨rfl, j + 1, d, t, rfl, by go_num, by go_num, HS.out⟩
      | last c hcc =>
        obtain ⟨hj, hcell⟩ := HA.out.at' hd
        have hE' : j + 1 = E := hE
        clear hd hE
        rcases hcc with rfl | rfl
        · have hcell' : wr.cell? ⟨g, j, none⟩ = some (.int .u8 125) := hcell
          clear hcell
          go_wp2
          go_ret
          exact ⟨ret_int (by omega), Below.refl _ _⟩
        · have hcell' : wr.cell? ⟨g, j, none⟩ = some (.int .u8 93) := hcell
          clear hcell
          go_wp2
          go_ret
          exact ⟨ret_int (by omega), Below.refl _ _⟩
      | str d b t hb hf =>
        obtain ⟨hj, hcell⟩ := HA.out.at' hd
        have hcell' : wr.cell? ⟨g, j, none⟩ = some (.int .u8 34) := hcell
        have hdn : T.drop (j + 1) = (b ++ t) ++ r := drop_next hd
        rw [List.append_assoc] at hdn
        have HC := skipString_any g cap T j b (t ++ r) wr hT HA.out hb hdn hj
        have HS : Aside (CS T r E (j + 1 + b.length) d t) := ⟨by rw [← List.drop_drop, hdn, List.drop_left], hf, by simp at hE; omega⟩
        have hbl : j + 1 + b.length ≤ 1048577 := by simp at hE; omega
        clear hd hf hcell hdn hb
        go_wp2_with fail
        refine HC.mono ?_
        rintro e w' ⟨rfl, hw⟩
        obtain rfl := hw.symm
        clear hw HC
        go_wp2
        go_roundg t.length
        case measure => simp; omega
        case rel => exact ⟨rfl, j + 1 + b.length, d, t, rfl, by go_num, rfl, HS.out⟩

theorem skipValue_any (g cap : Nat) (T : List UInt8) (i : Nat) (v : List UInt8) (sep : UInt8) (r : List UInt8) (w : World) (hT : T.length ≤ 1048577) (hcap : T.length ≤ cap) (hA : At w g T) (hd : T.drop i = v ++ sep :: r) (hs : sepQ sep = true) (hv : ValOK v) :
    Calls Tryd.prog 12 #[.slice (some ⟨g, 0, none⟩) T.length cap, .int .i64 i] w fun e w' => RetX w (i + v.length) e w' := by
  rcases hv with hv | hv | hv
  · exact skip_str g cap T i v _ w hT hA hd hv
  · exact skip_sc g cap T i v sep r w hT hcap hA hd hs hv
  · exact skip_cont g cap T i v _ w hT hA hd hv

theorem zzSkip_any (g cap : Nat) (T : List UInt8) (i : Nat) (v : List UInt8) (sep : UInt8) (r : List UInt8) (w : World) (hT : T.length ≤ 1048577) (hcap : T.length ≤ cap) (hA : At w g T) (hd : T.drop i = v ++ sep :: r) (hs : sepQ sep = true) (hv : ValOK v) :
    Calls Tryd.prog 7 #[.slice (some ⟨g, 0, none⟩) T.length cap, .int .i64 i] w fun e w' => RetX w (i + v.length) e w' := by
  have HC := skipValue_any g cap T i v sep r w hT hcap hA hd hs hv
  clear hA hd hs hv
  go_enter Tryd.func7, Tryd.ntmps7
  go_wp2_with fail
  refine HC.mono ?_
  rintro e w' ⟨rfl, hw⟩
  have HW : Aside (Below w.heap.size w w') := hw
  clear hw HC
  go_wp2
  go_ret
  exact ⟨rfl, HW.out⟩
end Go.Proofs.Qxb6600795aDoor
