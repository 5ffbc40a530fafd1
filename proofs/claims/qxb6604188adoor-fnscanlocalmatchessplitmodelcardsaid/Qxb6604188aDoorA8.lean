import Derived.Test.Qxb6604188aDoorA7
import Derived.Deep.LoopGhost
import Derived.Deep.CutBlock
import Derived.Deep.DeepCutAuto
namespace Go.Proofs.Qxb6604188aDoor
open Go.RowKit

def labAt (s : ByteArray) (k : Nat) : Bool := if h : k < s.size then isLabZ s[k].toNat else false
def sepAt (s : ByteArray) (k : Nat) : Bool := if h : k < s.size then isSepZ s[k].toNat else false
theorem labAt_in {s : ByteArray} {k : Nat} (h : k < s.size) : labAt s k = isLabZ s[k].toNat := dif_pos h
theorem labAt_out {s : ByteArray} {k : Nat} (h : ¬ k < s.size) : labAt s k = false := dif_neg h
theorem sepAt_in {s : ByteArray} {k : Nat} (h : k < s.size) : sepAt s k = isSepZ s[k].toNat := dif_pos h
theorem sepAt_out {s : ByteArray} {k : Nat} (h : ¬ k < s.size) : sepAt s k = false := dif_neg h

theorem lab_snoc {s : ByteArray} {p e : Nat} (h : ∀ k, p ≤ k → k < e → labAt s k = true) (he : labAt s e = true) : ∀ k, p ≤ k → k < e + 1 → labAt s k = true := fun k h1 h2 => by
  by_cases hk : k = e
  · rw [hk]; exact he
  · exact h k h1 (by omega)
theorem lab_dig {s : ByteArray} {e : Nat} (h : e < s.size) (hd : isDigZ s[e].toNat = true) : labAt s e = true := by
  rw [labAt_in h]; simp [isDigZ] at hd; simp [isLabZ]; omega
theorem lab_low {s : ByteArray} {e : Nat} (h : e < s.size) (h1 : 97 ≤ (s[e].toNat : Int)) (h2 : (s[e].toNat : Int) ≤ 122) : labAt s e = true := by
  rw [labAt_in h]; simp [isLabZ]; omega
theorem lab_none {s : ByteArray} {e : Nat} (h : e < s.size) (hd : isDigZ s[e].toNat = false) (h1 : (s[e].toNat : Int) < 97 ∨ 122 < (s[e].toNat : Int)) : labAt s e = false := by
  rw [labAt_in h]; simp [isDigZ] at hd; simp [isLabZ]; omega

/-- WHAT scanLocal READS: from place p on the segments 'gs', its answer, the place behind. -/
def Scan (s : ByteArray) : List ByteArray → Nat → Bool → Nat → Prop
  | [], p, ok, q => ok = false ∧ q = p ∧ labAt s p = false
  | g :: gs, p, ok, q => ∃ e, p < e ∧ e ≤ s.size ∧ (∀ k, p ≤ k → k < e → labAt s k = true) ∧ labAt s e = false ∧ g = canon (s.extract p e) ∧
      ((gs = [] ∧ ok = true ∧ q = e ∧ sepAt s e = false) ∨ (sepAt s e = true ∧ Scan s gs (e + 1) ok q))

/-- So far: what is read from p on, behind 'done', is what is read from p0 on. -/
def Sofar (s : ByteArray) (p0 : Nat) (done : List ByteArray) (p : Nat) : Prop := ∀ gs ok q, Scan s gs p ok q → Scan s (done ++ gs) p0 ok q
theorem sofar_start (s : ByteArray) (p0 : Nat) : Sofar s p0 [] p0 := fun _ _ _ h => h
theorem sofar_step {s : ByteArray} {p0 : Nat} {done : List ByteArray} {p e : Nat} (h : Sofar s p0 done p) (h1 : p < e) (h2 : e ≤ s.size) (h3 : ∀ k, p ≤ k → k < e → labAt s k = true) (h4 : labAt s e = false) (h5 : sepAt s e = true) :
    Sofar s p0 (done ++ [canon (s.extract p e)]) (e + 1) := fun gs ok q hs => by
  rw [List.append_assoc]
  exact h _ _ _ ⟨e, h1, h2, h3, h4, rfl, .inr ⟨h5, hs⟩⟩
theorem sofar_end {s : ByteArray} {p0 : Nat} {done : List ByteArray} {p e : Nat} (h : Sofar s p0 done p) (h1 : p < e) (h2 : e ≤ s.size) (h3 : ∀ k, p ≤ k → k < e → labAt s k = true) (h4 : labAt s e = false) (h5 : sepAt s e = false) :
    Scan s (done ++ [canon (s.extract p e)]) p0 true e := h _ _ _ ⟨e, h1, h2, h3, h4, rfl, .inl ⟨rfl, rfl, rfl, h5⟩⟩
theorem sofar_fail {s : ByteArray} {p0 : Nat} {done : List ByteArray} {p : Nat} (h : Sofar s p0 done p) (h1 : labAt s p = false) : Scan s done p0 false p := by
  have := h [] false p ⟨rfl, rfl, h1⟩
  rwa [List.append_nil] at this

/-- THE STATE IN scanLocal: the version's box is block H, the scanner's box block H + 1. -/
structure St (w0 : World) (H : Nat) (ao : Option Addr) (n : Nat) (olds : List Value) (s : ByteArray) (p : Int) (ks : List Value) (v : Value) (wr : World) : Prop where
  cur : Cur wr (H + 2) ao n olds v ks
  cv : wr.cell? ⟨H, 9, none⟩ = some v
  fv : wr.frozen? ⟨H, 9, none⟩ = false
  cs : wr.cell? ⟨H + 1, 0, none⟩ = some (.string s)
  ci : wr.cell? ⟨H + 1, 1, none⟩ = some (.int .i64 p)
  fi : wr.frozen? ⟨H + 1, 1, none⟩ = false
  bel : Below H w0 wr
  sz : H + 2 ≤ wr.heap.size

section
variable {w0 : World} {H : Nat} {ao : Option Addr} {n : Nat} {olds : List Value} {s : ByteArray} {p : Int} {ks : List Value} {v : Value} {wr : World}
theorem St.drewN (h : St w0 H ao n olds s p ks v wr) (m : Nat) : St w0 H ao n olds s p ks v (wr.drewN m) :=
  ⟨h.cur, h.cv, h.fv, h.cs, h.ci, h.fi, h.bel.trans ⟨rfl, rfl, rfl, Nat.le_refl _, fun _ _ => rfl⟩, h.sz⟩
theorem St.inc (h : St w0 H ao n olds s p ks v wr) (p' : Int) : St w0 H ao n olds s p' ks v (wr.setCell ⟨H + 1, 1, none⟩ (.int .i64 p')) := by
  refine ⟨h.cur.setCell (by simp) _, ?_, ?_, ?_, ?_, ?_, h.bel.setCell (by simp) _, by simpa using h.sz⟩
  · exact (World.cell?_setCell_other _ _ _ _ (by simp)).trans h.cv
  · rw [World.frozen?_setCell]; exact h.fv
  · exact (World.cell?_setCell_other _ _ _ _ (by simp)).trans h.cs
  · exact World.cell?_setCell_same _ _ _ h.ci
  · rw [World.frozen?_setCell]; exact h.fi
theorem St.push (h : St w0 H ao n olds s p ks v wr) {o : Obj} {u v' : Value} {w' : World} (hc : Cur w' (H + 2) ao n olds v' (ks ++ [u])) (hb : Below (H + 2) (wr.alloc o) w') : St w0 H ao n olds s p (ks ++ [u]) v' (w'.setCell ⟨H, 9, none⟩ v') := by
  have hz := h.sz
  have hb' : Below (H + 2) wr w' := ((Below.refl (H + 2) wr).alloc hz o).trans hb
  have k1 : w'.cell? ⟨H, 9, none⟩ = some v := (hb'.cell (by simp)).trans h.cv
  refine ⟨hc.setCell (by simp) _, World.cell?_setCell_same _ _ _ k1, ?_, ?_, ?_, ?_, (h.bel.trans (hb'.mono (by omega))).setCell (by simp) _, ?_⟩
  · rw [World.frozen?_setCell]; exact (hb'.frozen (by simp)).trans h.fv
  · exact (World.cell?_setCell_other _ _ _ _ (by simp)).trans ((hb'.cell (by simp)).trans h.cs)
  · exact (World.cell?_setCell_other _ _ _ _ (by simp)).trans ((hb'.cell (by simp)).trans h.ci)
  · rw [World.frozen?_setCell]; exact (hb'.frozen (by simp)).trans h.fi
  · have := hb'.size
    simp; omega
theorem St.oldsAt (h : St w0 H ao n olds s p ks v wr) (hH : w0.heap.size = H) (ho : Olds w0 ao n olds) : Olds wr ao n olds :=
  ⟨ho.1, ho.2.1, fun a ha j u hj => cell_later (by rw [hH]; exact h.bel) (ho.2.2 a ha j u hj)⟩
end

def Scanned (w0 : World) (H : Nat) (ao : Option Addr) (n : Nat) (olds : List Value) (s : ByteArray) (i : Int) (e : Ending) (w' : World) : Prop :=
  ∃ ok gs q v', e = .returned (.bool ok) ∧ Scan s gs i.toNat ok q ∧ St w0 H ao n olds s q (gs.map Value.string) v' w'

set_option maxHeartbeats 1000000 in
set_option maxRecDepth 100000 in
theorem scanLocal_any (w0 w : World) (H : Nat) (ao : Option Addr) (n : Nat) (olds : List Value) (s : ByteArray) (i : Int) (hH : w0.heap.size = H) (hn : n ≤ 1048576) (hs : s.size ≤ 1048576) (hi0 : 0 ≤ i) (hi1 : i ≤ 9223372036854775807)
    (ho : Olds w0 ao n olds) (hst : St w0 H ao n olds s i [] (.slice ao n n) w) :
    Calls Tryd.prog 18 #[.pointer (some ⟨H, 0, none⟩), .pointer (some ⟨H + 1, 0, none⟩)] w fun e w' => Scanned w0 H ao n olds s i e w' := by
  obtain ⟨p0, rfl⟩ := Int.eq_ofNat_of_zero_le hi0
  have HH : Aside (w0.heap.size = H) := hH
  have HOl : Aside (Olds w0 ao n olds) := ho
  clear hH ho
  go_enter Tryd.func18, Tryd.ntmps18
  go_wp2
  go_loopg [] (s.size + 1 - p0) (fun k wr => ∃ (p : Nat) (done : List ByteArray) (v : Value), k = s.size + 1 - p ∧ (p : Int) ≤ 9223372036854775807 ∧ done.length ≤ p ∧ Sofar s p0 done p ∧ St w0 H ao n olds s p (done.map Value.string) v wr)
  case atStart => exact ⟨p0, [], _, rfl, hi1, Nat.zero_le _, sofar_start s p0, hst⟩
  case round =>
    obtain ⟨p, done, v, rfl, hp, hd, hso, hS⟩ := hrel
    have hcs := hS.cs
    have hci := hS.ci
    have HS : Aside (St w0 H ao n olds s p (done.map Value.string) v wr) := hS
    have HO : Aside (Sofar s p0 done p) := hso
    clear hst hS hso
    go_upto_block 2 with fail
    go_cut [] (fun wx => ∃ e : Nat, p ≤ e ∧ (p < e → e ≤ s.size) ∧ (∀ k, p ≤ k → k < e → labAt s k = true) ∧ labAt s e = false ∧ St w0 H ao n olds s e (done.map Value.string) v wx)
    case first =>
      go_wp2_with fail
      go_loopg [] (s.size + 1 - p) (fun k wx => ∃ e : Nat, k = s.size + 1 - e ∧ (e : Int) ≤ 9223372036854775807 ∧ p ≤ e ∧ (p < e → e ≤ s.size) ∧ (∀ k, p ≤ k → k < e → labAt s k = true) ∧ St w0 H ao n olds s e (done.map Value.string) v wx)
      case atStart => exact ⟨p, rfl, hp, Nat.le_refl _, fun h => absurd h (Nat.lt_irrefl _), fun k h1 h2 => absurd h1 (by omega), HS.out⟩
      case round =>
        obtain ⟨e, rfl, he0, he1, he2, he3, hS⟩ := hrel
        clear hcs hci HS
        have hcs := hS.cs
        have hci := hS.ci
        have hfi := hS.fi
        have HS : Aside (St w0 H ao n olds s e (done.map Value.string) v wr) := hS
        have H3 : Aside (∀ k, p ≤ k → k < e → labAt s k = true) := he3
        clear hS he3
        by_cases hlt : e < s.size
        · have hlt' : (e : Int) < (s.size : Int) := by omega
          by_cases hdig : isDigZ s[e].toNat = true
          · go_wp2_with fail
            go_quiet ((go_at_call 22; exact Calls.quiet_of_same (isDigit_t _ _ hdig)))
            go_wp2
            go_roundg (s.size + 1 - (e + 1))
            case measure => omega
            case rel => exact ⟨e + 1, rfl, by omega, by omega, by omega, lab_snoc H3.out (lab_dig hlt hdig), (HS.out.drewN _).inc _⟩
          · have hdig' : isDigZ s[e].toNat = false := by simpa using hdig
            clear hdig
            by_cases h1 : 97 ≤ (s[e].toNat : Int)
            · by_cases h2 : (s[e].toNat : Int) ≤ 122
              · go_wp2_with fail
                go_quiet ((go_at_call 22; exact Calls.quiet_of_same (isDigit_f _ _ hdig')))
                go_wp2
                go_roundg (s.size + 1 - (e + 1))
                case measure => omega
                case rel => exact ⟨e + 1, rfl, by omega, by omega, by omega, lab_snoc H3.out (lab_low hlt h1 h2), (HS.out.drewN _).inc _⟩
              · go_wp2_with fail
                go_quiet ((go_at_call 22; exact Calls.quiet_of_same (isDigit_f _ _ hdig')))
                go_wp2
                go_meet
                case rel => exact ⟨e, he1, he2, H3.out, lab_none hlt hdig' (by omega), HS.out.drewN _⟩
            · have h1' : decide (97 ≤ (s[e].toNat : Int)) = false := decide_eq_false h1
              go_wp2_with fail
              go_quiet ((go_at_call 22; exact Calls.quiet_of_same (isDigit_f _ _ hdig')))
              go_wp2
              go_meet
              case rel => exact ⟨e, he1, he2, H3.out, lab_none hlt hdig' (by omega), HS.out.drewN _⟩
        · have hd : decide ((e : Int) < (s.size : Int)) = false := decide_eq_false (by omega)
          go_wp2_with fail
          go_quiet (fail)
          go_wp2
          go_meet
          case rel => exact ⟨e, he1, he2, H3.out, labAt_out hlt, HS.out.drewN _⟩
    case rest =>
      obtain ⟨e, he1, he2, he3, he4, hS⟩ := hcut
      clear hcs hci HS
      have hcs := hS.cs
      have hci := hS.ci
      have HS : Aside (St w0 H ao n olds s e (done.map Value.string) v wc) := hS
      have H3 : Aside ((∀ k, p ≤ k → k < e → labAt s k = true) ∧ labAt s e = false) := ⟨he3, he4⟩
      clear hS he3 he4
      by_cases heq : p = e
      · have hq : ((e : Int) == (p : Int)) = true := by rw [heq]; simp
        go_wp2
        go_ret
        exact ⟨false, done, p, v, rfl, sofar_fail HO.out (by rw [heq]; exact H3.out.2), by rw [heq]; exact HS.out⟩
      · have hq : ((e : Int) == (p : Int)) = false := beq_eq_false_iff_ne.2 (by omega)
        have hpe : p < e := by omega
        have hes := he2 hpe
        clear heq he2 he1
        go_wp2
        go_quiet (fail)
        have hgs : (s.extract p e).size ≤ maxLen := by simp [maxLen]; omega
        have hgp : 0 < (s.extract p e).size := by simp; omega
        generalize hg : s.extract p e = g at *
        have HG : Aside (s.extract p e = g) := hg
        clear hg
        go_upto_if 81 with (go_at_call 23; refine (isNumber_any _ _ (by assumption)).mono ?_; rintro e w' ⟨rfl, rfl⟩)
        go_cut [6] (fun seg wx => seg = .string (canon g) ∧ wx = wc.drewN nq)
        case first =>
          go_wp2_with (go_at_call 24; refine (trimZeros_any _ _ (by assumption)).mono ?_; rintro e w' ⟨rfl, rfl⟩)
          · have ha : allDig g.data.toList = true := by assumption
            go_meet
            case rel => exact ⟨by rw [canon, if_pos ha], rfl⟩
          · have ha : allDig g.data.toList = false := by assumption
            go_meet
            case rel => exact ⟨by rw [canon, if_neg (by simp [ha])], rfl⟩
        case rest =>
          obtain ⟨rfl, rfl⟩ := hcut
          clear hgs hgp hcs hci
          generalize hc : canon g = c at *
          have HC : Aside (canon (s.extract p e) = c) := by rw [HG.out]; exact hc
          clear hc HG
          have HS1 := HS.out.drewN nq
          generalize wc.drewN nq = w1 at *
          clear HS
          have hcv := HS1.cv
          have hfv := HS1.fv
          have HS : Aside (St w0 H ao n olds s e (done.map Value.string) v w1) := HS1
          have HOl1 : Aside (Olds w1 ao n olds) := HS1.oldsAt HH.out HOl.out
          clear HS1
          go_wp2_with (at_builtin; refine wpList_append_cur _ rfl (.tmp 88) (.tmp 90) rfl rfl (HS.out.cur.alloc _) (HOl1.out.alloc _) ⟨w1.heap.size, 0, none⟩ 1 (.string c) rfl (cell_one_new _ _ _) rfl (by simp; omega) (by have := HS.out.sz; simp; omega) ?_; intro v' w2 hcur hbel; have HS2 : Aside _ := HS.out.push hcur hbel; obtain ⟨a2, c2, rfl⟩ := hcur.shape; have hv2 : w2.cell? ⟨H, 9, none⟩ = some v := ((((Below.refl _ _).alloc HS.out.sz _).trans hbel).cell (p := ⟨H, 9, none⟩) (by simp)).trans HS.out.cv; have hf2 : w2.frozen? ⟨H, 9, none⟩ = false := ((((Below.refl _ _).alloc HS.out.sz _).trans hbel).frozen (p := ⟨H, 9, none⟩) (by simp)).trans HS.out.fv; clear hcur hbel)
          have HS3 := HS2.out
          simp only [List.length_append, List.length_map, List.length_cons, List.length_nil, Nat.zero_add] at HS3
          have em : List.map Value.string done ++ [Value.string c] = List.map Value.string (done ++ [c]) := by simp
          rw [em] at HS3
          clear HS2 hv2 hf2 hcv hfv HS HOl1 em
          generalize Value.slice a2 (n + (done.length + 1)) c2 = v2 at *
          generalize w2.setCell ⟨H, 9, none⟩ v2 = w3 at *
          have S3 : Aside (St w0 H ao n olds s e (List.map Value.string (done ++ [c])) v2 w3) := HS3
          clear HS3
          by_cases hsep : sepAt s e = true
          · have hlt : e < s.size := by
              by_cases h : e < s.size
              · exact h
              · rw [sepAt_out h] at hsep; cases hsep
            refine (separator_yes (H + 1) e s w3 hs hlt S3.out.cs S3.out.ci S3.out.fi (by rw [← sepAt_in hlt]; exact hsep)).mono ?_
            rintro e' w' ⟨rfl, m, rfl⟩
            have HSep : Aside (sepAt s e = true) := hsep
            clear hsep
            go_wp2
            go_roundg (s.size + 1 - (e + 1))
            case measure => omega
            case rel => exact ⟨e + 1, done ++ [c], v2, rfl, by omega, by simp; omega, HC.out ▸ sofar_step HO.out hpe hes H3.out.1 H3.out.2 HSep.out, (S3.out.inc _).drewN m⟩
          · have hsep' : sepAt s e = false := by simpa using hsep
            have HE : Aside (Scanned w0 H ao n olds s p0 (.returned (.bool true)) w3) := ⟨true, done ++ [c], e, v2, rfl, HC.out ▸ sofar_end HO.out hpe hes H3.out.1 H3.out.2 hsep', S3.out⟩
            have HF : Calls Tryd.prog 25 #[.pointer (some ⟨H + 1, 0, none⟩)] w3 fun e w' => SepNo w3 e w' := by
              by_cases h : e < s.size
              · exact separator_no (H + 1) e s w3 hs h S3.out.cs S3.out.ci (by rw [← sepAt_in h]; exact hsep')
              · exact separator_end (H + 1) e s w3 hs (by omega) (by omega) S3.out.cs S3.out.ci
            clear hsep hsep'
            refine HF.mono ?_
            rintro e' w' ⟨rfl, m, rfl⟩
            clear HF
            go_wp2
            go_ret
            obtain ⟨ok, gs, q, v', h1, h2, h3⟩ := HE.out
            exact ⟨ok, gs, q, v', h1, h2, h3.drewN m⟩
end Go.Proofs.Qxb6604188aDoor
