import Derived.Test.Qxb6604548aDoorF1
import Derived.WalkSmall
import Derived.Lib.ItoaMem
namespace Go.Proofs.Qxb6604548aDoor
open Go.RowKit
open Go.Sort (putRow Holds mapBlock cell?_putRow)

/-- Without its last zeros. -/
def trimz (l : List UInt8) : List UInt8 := (l.reverse.dropWhile (· == 48)).reverse
theorem trimz_nil : trimz [] = [] := rfl
theorem trimz_zero (l : List UInt8) : trimz (l ++ [48]) = trimz l := by
  simp [trimz]
theorem trimz_other (l : List UInt8) {c : UInt8} (h : (c == 48) = false) : trimz (l ++ [c]) = l ++ [c] := by
  simp [trimz, h]
theorem trimz_le (l : List UInt8) : (trimz l).length ≤ l.length := by
  have := List.Sublist.length_le (List.dropWhile_sublist (p := (· == 48)) (l := l.reverse))
  simpa [trimz] using this
def encB : UInt8 → Value := fun (b : UInt8) => Value.int .u8 (b.toNat : Int)
theorem grown_put (w : World) (g n : Nat) (dk : Array UInt8) : w.grownBy ((putRow encB w g 0 dk).drewN n) (some g) := by
  refine ⟨rfl, rfl, rfl, by simp [World.drewN], fun k hk hne => ?_⟩
  show (putRow encB w g 0 dk).heap[k]? = _
  have hgk : g ≠ k := fun e => hne (by rw [e])
  unfold putRow mapBlock
  simp [Array.getElem?_modify, hgk]

def RetSD (w : World) (bB : Nat) (d : Nat) (p : Int) (e : Ending) (w' : World) : Prop :=
  e = .returned (.tuple #[.int .i64 ((Lib.nDigits d : Int) + p), .int .i64 ((trimz (Lib.decDigits d)).length : Int)]) ∧ (∀ (j : Nat) (c : UInt8), (trimz (Lib.decDigits d))[j]? = some c → w'.cell? ⟨bB, j, none⟩ = some (.int .u8 c.toNat)) ∧ w.grownBy w' (some bB)
theorem trimz_prefix (l : List UInt8) : trimz l <+: l := by
  have := List.dropWhile_suffix (l := l.reverse) (· == 48)
  simpa [trimz] using List.reverse_prefix.2 this

set_option maxHeartbeats 1000000 in
theorem setDigits_any (bB d : Nat) (p : Int) (w : World) (h2 : d < 18446744073709551616) (hp : -1000 ≤ p ∧ p ≤ 1000) (hnd : Lib.nDigits d ≤ 20)
    (hz : ∀ j, j < 32 → w.cell? ⟨bB, j, none⟩ = some (.int .u8 0) ∧ w.frozen? ⟨bB, j, none⟩ = false) :
    Calls Tryd.prog 30 #[.slice (some ⟨bB, 0, none⟩) 32 32, .int .u64 d, .int .i64 p, .int .i64 (Lib.nDigits d : Int)] w fun e w' => RetSD w bB d p e w' := by
  have hH : Holds encB w bB 0 (Array.replicate (Lib.nDigits d) (0 : UInt8)) := fun j hj => by
    have hj' : j < Lib.nDigits d := by simpa using hj
    have := hz j (by omega)
    rw [Nat.zero_add, getElem!_pos _ j hj]
    simpa [encB] using this
  have HF := Tryd.internal_strconv_formatBase10 bB 0 32 d (Array.replicate (Lib.nDigits d) (0 : UInt8)) w hH (by simpa using Lib.lt_pow_nDigits d) h2 (by simp; omega)
  rw [Array.size_replicate] at HF
  have HH : Aside (Holds encB w bB 0 (Array.replicate (Lib.nDigits d) (0 : UInt8))) := hH
  have hlen := Lib.decDigits_length d
  have hnd1 := Lib.nDigits_pos d
  clear hz hH
  generalize hN : Lib.nDigits d = N at *
  go_enter Tryd.func30, Tryd.ntmps30
  go_wp2_with fail
  refine HF.mono ?_
  rintro e w' ⟨rfl, n, v', dk, hw, hinv⟩
  have hgr : w.grownBy w' (some bB) := by rw [hw]; exact grown_put w bB n dk
  have hdks : dk.size = N := hinv.size
  have hcell : ∀ (j : Nat) (c : UInt8), (Lib.decDigits d)[j]? = some c → w'.cell? ⟨bB, j, none⟩ = some (.int .u8 c.toNat) := fun j c hj => by
    obtain ⟨hjl, hjc⟩ := List.getElem?_eq_some_iff.1 hj
    have h3 := Lib.row_is_numeral (hN ▸ hinv) j hjl
    have h4 := cell?_putRow encB w bB 0 _ dk HH.out (by simp [hdks]) j (by omega)
    rw [Nat.zero_add] at h4
    rw [hw]
    show (putRow encB w bB 0 dk).cell? ⟨bB, j, none⟩ = _
    rw [h4, ← h3, hjc]; rfl
  have HG : Aside (w.grownBy w' (some bB)) := hgr
  have HCL : Aside (∀ (j : Nat) (c : UInt8), (Lib.decDigits d)[j]? = some c → w'.cell? ⟨bB, j, none⟩ = some (.int .u8 c.toNat)) := hcell
  have HFIN : Aside (∀ (k : Nat), trimz (Lib.decDigits d) = (Lib.decDigits d).take k → k ≤ N → RetSD w bB d p (.returned (.tuple #[.int .i64 ((N : Int) + p), .int .i64 (k : Int)])) w') := fun k hk hkN => ⟨by
    rw [hN, hk, List.length_take, hlen, Nat.min_eq_left hkN], fun j c hj => by
    rw [hk] at hj
    exact hcell j c (by rw [List.getElem?_take] at hj; split at hj <;> first | exact hj | cases hj), hgr⟩
  clear hw hgr hinv hdks hcell HH HF
  generalize hLL : Lib.decDigits d = L at *
  clear hLL
  go_wp2_with fail
  go_loopg [3] N (fun kk ix wr => wr = w' ∧ ∃ k : Nat, kk = k ∧ k ≤ N ∧ ix = .int .i64 k ∧ trimz L = trimz (L.take k))
  case atStart => exact ⟨rfl, N, rfl, Nat.le_refl _, rfl, by rw [List.take_of_length_le (by omega)]⟩
  case round =>
    obtain ⟨hwr, k, rfl, hk, rfl, htr⟩ := hrel
    subst hwr
    have HTR : Aside (trimz L = trimz (L.take gk)) := htr
    clear htr
    cases gk with
    | zero =>
      go_wp2
      go_ret2
      exact HFIN.out 0 (by rw [HTR.out]; simp [trimz]) (by omega)
    | succ k =>
      have hkl : k < L.length := by omega
      have hck := HCL.out k L[k] (List.getElem?_eq_getElem hkl)
      have htk : L.take (k + 1) = L.take k ++ [L[k]] := by rw [List.take_succ_eq_append_getElem hkl]
      have hpos : (0 : Int) < (k : Int) + 1 := by omega
      cases hd : ((L[k].toNat : Int) == 48) with
      | true =>
        have h48 : L[k] = 48 := UInt8.toNat_inj.1 (by have := beq_iff_eq.1 hd; simpa using (by omega : L[k].toNat = 48))
        have HT2 : Aside (trimz L = trimz (L.take k)) := by rw [Aside, HTR.out, htk, h48, trimz_zero]
        clear htk h48
        generalize L[k] = x at *
        go_wp2
        go_roundg k
        case measure => omega
        case rel => exact ⟨rfl, k, rfl, by omega, by go_num, HT2.out⟩
      | false =>
        have h48 : (L[k] == 48) = false := by
          rw [beq_eq_false_iff_ne]
          intro e
          rw [e] at hd
          cases hd
        have HT2 : Aside (trimz L = L.take (k + 1)) := by rw [Aside, HTR.out, htk, trimz_other _ h48]
        clear htk h48
        generalize L[k] = x at *
        go_wp2
        go_ret2
        exact HFIN.out (k + 1) HT2.out hk
end Go.Proofs.Qxb6604548aDoor
