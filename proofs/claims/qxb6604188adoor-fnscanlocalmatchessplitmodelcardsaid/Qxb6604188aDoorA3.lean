import Derived.Test.Qxb6604188aDoorA2
import Derived.Lib.Strings
import Derived.Lib.TrimByte
namespace Go.Proofs.Qxb6604188aDoor
open Go.RowKit

def isZ (c : UInt8) : Bool := c == 48
def canonL (l : List UInt8) : List UInt8 := if (l.dropWhile isZ).isEmpty then [48] else l.dropWhile isZ
def canon (s : ByteArray) : ByteArray := if allDig s.data.toList then ⟨(canonL s.data.toList).toArray⟩ else s
theorem isZ_of {c : UInt8} : (((c.toNat : Int) == 48) = isZ c) := by
  rw [Bool.eq_iff_iff]; simp [isZ]
  constructor
  · intro h; exact UInt8.toNat_inj.1 (by simpa using (by omega : c.toNat = 48))
  · rintro rfl; rfl
theorem ba_eq {a b : ByteArray} (h : a.data.toList = b.data.toList) : a = b := by
  cases a with | mk a => cases b with | mk b => simp at h; rw [h]
theorem ret_str {a b : ByteArray} (h : a.data.toList = b.data.toList) : Ending.returned (.string a) = .returned (.string b) := by rw [ba_eq h]
theorem tail_of (r : ByteArray) : (r.extract 1 r.size).data.toList = r.data.toList.drop 1 := by
  rw [Lib.extract_data, List.take_of_length_le]; simp
theorem head_of (r : ByteArray) (h : 0 < r.size) : r.data.toList = r[0] :: r.data.toList.drop 1 := by
  have e := List.drop_eq_getElem_cons (l := r.data.toList) (i := 0) (by simpa using h)
  rw [List.drop_zero] at e; exact e

set_option maxHeartbeats 400000 in
theorem trimLeftByte_any (s : ByteArray) (w : World) :
    Calls Tryd.prog 28 #[.string s, .int .u8 48] w fun e w' => e = .returned (.string ⟨(s.data.toList.dropWhile isZ).toArray⟩) ∧ w' = w := by
  go_enter Tryd.func28, Tryd.ntmps28
  go_wp2
  go_loop [0] (fun v => ∃ r : ByteArray, r.size ≤ s.size ∧ v = .string r ∧ s.data.toList.dropWhile isZ = r.data.toList.dropWhile isZ) (fun v => match v with | .string r => r.size | _ => 0)
  case atStart => exact ⟨s, Nat.le_refl _, rfl, rfl⟩
  case round =>
    obtain ⟨r, hk, rfl, hall⟩ := hrel
    have HA : Hid (s.data.toList.dropWhile isZ = r.data.toList.dropWhile isZ) := hall
    clear hall
    by_cases hr : 0 < r.size
    · go_wp2
      · have hz : isZ r[0] = true := isZ_of ▸ (by assumption)
        go_round
        case rel => exact ⟨_, by simp; omega, rfl, by rw [HA.out, tail_of, head_of r hr, List.dropWhile_cons_of_pos hz]; simp⟩
        case measure => simp; omega
      · have hz : isZ r[0] = false := isZ_of ▸ (by assumption)
        go_ret
        refine ⟨ret_str ?_, rfl⟩
        simp [HA.out]
        rw [head_of r hr, List.dropWhile_cons_of_neg (by simp [hz])]
    · go_wp2
      go_ret
      refine ⟨ret_str ?_, rfl⟩
      have h0 : r.data.toList = [] := List.eq_nil_of_length_eq_zero (by rw [← Lib.size_eq]; omega)
      simp [HA.out, h0]

theorem drop_zeros {l : List UInt8} {k : Nat} (h : (l.take k).all isZ = true) : l.dropWhile isZ = (l.drop k).dropWhile isZ := by
  have e := List.dropWhile_append_of_pos (p := isZ) (l₁ := l.take k) (l₂ := l.drop k) (fun a ha => List.all_eq_true.1 h a ha)
  rwa [List.take_append_drop] at e
theorem drop_at (s : ByteArray) (k : Nat) (h : k < s.size) : s.data.toList.drop k = s[k] :: s.data.toList.drop (k + 1) :=
  List.drop_eq_getElem_cons (l := s.data.toList) (i := k) (by simpa using h)
theorem canonL_stop {s : ByteArray} {k : Nat} (hk : k < s.size) (h : (s.data.toList.take k).all isZ = true) (hz : isZ s[k] = false) : canonL s.data.toList = s.data.toList.drop k := by
  have e : s.data.toList.dropWhile isZ = s.data.toList.drop k := by
    rw [drop_zeros h, drop_at s k hk, List.dropWhile_cons_of_neg (by simp [hz])]
  rw [canonL, e, drop_at s k hk]; simp
theorem canonL_last {s : ByteArray} {k : Nat} (hk : k < s.size) (h : (s.data.toList.take k).all isZ = true) (hl : s.size ≤ k + 1) : canonL s.data.toList = s.data.toList.drop k := by
  cases hz : isZ s[k] with
  | false => exact canonL_stop hk h hz
  | true =>
    have e0 : s.data.toList.drop (k + 1) = [] := List.drop_of_length_le (by rw [← Lib.size_eq]; exact hl)
    have e : s.data.toList.dropWhile isZ = [] := by
      rw [drop_zeros h, drop_at s k hk, List.dropWhile_cons_of_pos hz, e0]; rfl
    rw [canonL, e, drop_at s k hk, e0]
    have : s[k] = 48 := by simpa [isZ] using hz
    simp [this]

set_option maxHeartbeats 400000 in
set_option maxRecDepth 100000 in
theorem trimLeft_any (s : ByteArray) (w : World) (hp : 0 < s.size) :
    Calls Tryd.prog 26 #[.string s, .string ⟨#[48]⟩] w fun e w' => e = .returned (.string ⟨(s.data.toList.dropWhile isZ).toArray⟩) ∧ w' = w := by
  have hE : s.toList.isEmpty = false := by rw [empty_iff]; exact decide_eq_false (by omega)
  go_enter Tryd.func26, Tryd.ntmps26
  go_wp2_with (go_at_call 28; refine (trimLeftByte_any _ _).mono ?_; rintro e w' ⟨rfl, rfl⟩)
  go_ret
  exact ⟨rfl, rfl⟩

set_option maxHeartbeats 400000 in
theorem trimZeros_any (s : ByteArray) (w : World) (hp : 0 < s.size) :
    Calls Tryd.prog 24 #[.string s] w fun e w' => e = .returned (.string ⟨(canonL s.data.toList).toArray⟩) ∧ w' = w := by
  go_enter Tryd.func24, Tryd.ntmps24
  go_wp2_with (go_at_call 26; refine (trimLeft_any _ _ hp).mono ?_; rintro e w' ⟨rfl, rfl⟩)
  · have h : (s.data.toList.dropWhile isZ).isEmpty = true := by assumption
    go_ret
    exact ⟨ret_str (by rw [canonL, if_pos h]), rfl⟩
  · have h : (s.data.toList.dropWhile isZ).isEmpty = false := by assumption
    go_ret
    exact ⟨ret_str (by rw [canonL, if_neg (by simp [h])]), rfl⟩

set_option maxHeartbeats 400000 in
theorem canonDigitsB1_any (s : ByteArray) (w : World) (hs : s.size ≤ maxLen) (hp : 0 < s.size) :
    Calls Tryd.prog 19 #[.string s] w fun e w' => e = .returned (.string ⟨(canonL s.data.toList).toArray⟩) ∧ w' = w := by
  unfold maxLen at hs
  go_enter Tryd.func19, Tryd.ntmps19
  go_wp2
  go_loop [3] (fun i => ∃ k : Nat, k < s.size ∧ i = .int .i64 k ∧ (s.data.toList.take k).all isZ = true) (fun i => s.size - (intOf i).toNat)
  case atStart => exact ⟨0, hp, rfl, rfl⟩
  case round =>
    obtain ⟨k, hk, rfl, hall⟩ := hrel
    have HA : Hid ((s.data.toList.take k).all isZ = true) := hall
    clear hall
    by_cases hlt : k + 1 < s.size
    · have hlt2 : (k : Int) < (s.size : Int) - 1 := by omega
      go_wp2
      · have hz : isZ s[k] = true := isZ_of ▸ (by assumption)
        go_round
        case rel => exact ⟨k + 1, by omega, by go_num, all_take_snoc hk HA.out hz⟩
        case measure => simp [intOf]; omega
      · have hz : isZ s[k] = false := isZ_of ▸ (by assumption)
        go_ret
        exact ⟨ret_str (by rw [Lib.extract_from, canonL_stop hk HA.out hz]), rfl⟩
    · have hlt2 : ¬ (k : Int) < (s.size : Int) - 1 := by omega
      go_wp2
      go_ret
      exact ⟨ret_str (by rw [Lib.extract_from, canonL_last hk HA.out (by omega)]), rfl⟩

def isCanon (l : List UInt8) : Bool := allDig l && (decide (l.length = 1) || !isZ (l.headD 0))
theorem headD_at (s : ByteArray) (h : 0 < s.size) : s.data.toList.headD 0 = s[0] := by
  rw [head_of s h]; rfl
theorem canon_b1 {s : ByteArray} (h : allDig s.data.toList = true) (h1 : (s.size : Int) = 1) : true = isCanon s.data.toList := by
  have : s.data.toList.length = 1 := by rw [← Lib.size_eq]; omega
  rw [isCanon, h, this]; rfl
theorem canon_b2 {s : ByteArray} (h : allDig s.data.toList = true) (h0 : 0 < s.size) : ((s.size : Int) == 1 || (s[0].toNat : Int) != 48) = isCanon s.data.toList := by
  have e1 : ((s.size : Int) == 1) = decide (s.data.toList.length = 1) := by
    rw [Bool.eq_iff_iff, ← Lib.size_eq, beq_iff_eq, decide_eq_true_iff]; omega
  rw [isCanon, h, headD_at s h0, e1, bne, isZ_of]; rfl
theorem canon_b3 {s : ByteArray} (h : allDig s.data.toList = false) : false = isCanon s.data.toList := by
  rw [isCanon, h]; rfl

set_option maxHeartbeats 400000 in
theorem isCanonNumberB1_any (s : ByteArray) (w : World) (hs : s.size ≤ maxLen) (hp : 0 < s.size) :
    Calls Tryd.prog 15 #[.string s] w fun e w' => e = .returned (.bool (isCanon s.data.toList)) ∧ w' = w := by
  go_enter Tryd.func15, Tryd.ntmps15
  go_wp2_with (go_at_call 14; refine (allDigitsB1_any _ _ hs).mono ?_; rintro e w' ⟨rfl, rfl⟩)
  · go_ret
    exact ⟨ret_bool (canon_b1 (by assumption) (by assumption)), rfl⟩
  · go_ret
    exact ⟨ret_bool (canon_b2 (by assumption) hp), rfl⟩
  · go_ret
    exact ⟨ret_bool (canon_b3 (Bool.eq_false_iff.2 (by assumption))), rfl⟩
end Go.Proofs.Qxb6604188aDoor
