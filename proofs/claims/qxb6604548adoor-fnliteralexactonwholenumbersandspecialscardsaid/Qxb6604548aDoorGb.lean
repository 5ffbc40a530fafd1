import Derived.Test.Qxb6604548aDoorGa
import Derived.Test.Qxb6604548aDoorFt
namespace Go.Proofs.Qxb6604548aDoor
open Go.RowKit

theorem dec_mul10 {d : Nat} (h : 1 ≤ d) : Lib.decDigits (d * 10) = Lib.decDigits d ++ [48] := by
  rw [Lib.decDigits, dif_neg (by omega), show d * 10 / 10 = d by omega, show d * 10 % 10 = 0 by omega]
  rfl
theorem dec_pow {d : Nat} (h : 1 ≤ d) : ∀ j, Lib.decDigits (d * 10 ^ j) = Lib.decDigits d ++ List.replicate j 48
  | 0 => by simp
  | j + 1 => by
    rw [Nat.pow_succ, ← Nat.mul_assoc, dec_mul10 (Nat.mul_pos h (Nat.pow_pos (by decide))), dec_pow h j, List.append_assoc, ← List.replicate_succ']
theorem trim_pow (l : List UInt8) : ∀ j, trimz (l ++ List.replicate j 48) = trimz l
  | 0 => by simp
  | j + 1 => by rw [List.replicate_succ', ← List.append_assoc, trimz_zero, trim_pow l j]
theorem isN_txt {n : Nat} {r : Nat × Int} (h : IsN n r) (hn : 1 ≤ n) : gTxt (trimz (Lib.decDigits r.1)) ((Lib.nDigits r.1 : Int) + r.2) = gTxt (trimz (Lib.decDigits n)) (Lib.nDigits n) := by
  obtain ⟨j, k, h1, h2, h3⟩ := h
  have e1 := dec_pow h3 j
  have e2 := dec_pow hn k
  rw [h1] at e1
  have e3 := e1.symm.trans e2
  have e4 : trimz (Lib.decDigits r.1) = trimz (Lib.decDigits n) := by rw [← trim_pow _ j, e3, trim_pow]
  have e5 := congrArg List.length e3
  rw [List.length_append, List.length_append, List.length_replicate, List.length_replicate, Lib.decDigits_length, Lib.decDigits_length] at e5
  rw [e4, h2, show (Lib.nDigits r.1 : Int) + ((j : Int) - k) = (Lib.nDigits n : Int) by omega]
/-- zzWholeLiteral's text, the sign aside. -/
def wTxt (n : Nat) : List UInt8 :=
  if (Lib.decDigits n).length ≤ 6 then Lib.decDigits n ++ [46, 48] else mant (trimz (Lib.decDigits n)) ++ [101, 43] ++ exp2 ((Lib.decDigits n).length - 1)
theorem trim_pad_rev : ∀ r : List UInt8, trimz r.reverse ++ List.replicate (r.length - (trimz r.reverse).length) 48 = r.reverse
  | [] => rfl
  | c :: r => by
    rw [List.reverse_cons]
    cases hc : c == 48 with
    | false => rw [trimz_other _ hc]; simp
    | true =>
      have hc' : c = 48 := by simpa using hc
      subst hc'
      have := trimz_le r.reverse
      rw [List.length_reverse] at this
      rw [trimz_zero, List.length_cons, show r.length + 1 - (trimz r.reverse).length = (r.length - (trimz r.reverse).length) + 1 by omega, List.replicate_succ', ← List.append_assoc, trim_pad_rev r]
theorem trim_pad (l : List UInt8) : trimz l ++ List.replicate (l.length - (trimz l).length) 48 = l := by
  have := trim_pad_rev l.reverse
  simpa using this
theorem whole_lit {n : Nat} (hn : 1 ≤ n) : lit (gTxt (trimz (Lib.decDigits n)) (Lib.nDigits n)) = wTxt n := by
  have hp := trim_pos hn
  have hl := trimz_le (Lib.decDigits n)
  have hpad := trim_pad (Lib.decDigits n)
  have hD : trimz (Lib.decDigits n) ≠ [] := List.length_pos_iff.1 hp
  have hdig := dec_dig n
  unfold gTxt wTxt
  rw [← Lib.decDigits_length]
  generalize Lib.decDigits n = d at *
  rw [if_neg hD]
  by_cases h6 : d.length ≤ 6
  · rw [if_neg (by omega), if_pos h6]
    unfold fTxt
    rw [if_pos (by omega), if_neg (by omega), List.append_nil, Int.toNat_natCast, List.take_of_length_le hl, hpad]
    unfold lit
    rw [ca_false (fun c hc => dig_not (hdig c hc))]
    rfl
  · rw [if_pos (by omega), if_neg h6]
    unfold eTxt
    rw [if_neg (by omega), show ((d.length : Int) - 1).natAbs = d.length - 1 by omega]
    unfold lit
    rw [ca_true (c := 101) (.inr rfl) (by simp)]
    simp
theorem zero_lit : lit [48] = wTxt 0 := by decide +kernel
/-- A whole double. -/
theorem whole_fin {mant t n : Nat} (ht : t < 53) (hm : mant = n * 2 ^ t) (h1 : 4503599627370496 ≤ mant) (h2 : mant < 9007199254740992) (hn : 1 ≤ n) : lit (fin TH0 TL0 mant (52 - (t : Int))) = wTxt n := by
  have hM : mant * 2 ^ 11 + 1024 < 18446744073709551616 := by
    rw [show (2 : Nat) ^ 11 = 2048 by decide]
    clear hm
    omega
  obtain ⟨s, hs1, hs2, hs3, hs4, hs5, hs6, _⟩ := shiftUp (by omega : 1 ≤ mant) h2
  obtain rfl := hs6 h1
  unfold fin
  simp only
  rw [hs3, Int.toNat_natCast, ← whole_lit hn]
  congr 1
  refine isN_txt ?_ hn
  refine whole_SF (t := t) ht (by omega) ?_ hn hs4 hM
  rw [hm, Nat.pow_add, Nat.mul_assoc]

/-! ### significant digits -/
def sig : List UInt8 → Nat → Bool → Nat
  | [], c, _ => c
  | x :: l, c, seen => if x = 101 then c else if digB x.toNat = true then (if seen = true ∨ x ≠ 48 then sig l (c + 1) true else sig l c false) else sig l c seen
def dcount : List UInt8 → Nat
  | [] => 0
  | x :: l => (if digB x.toNat = true then 1 else 0) + dcount l
theorem dcount_le : ∀ l, dcount l ≤ l.length
  | [] => Nat.le_refl _
  | x :: l => by
    have := dcount_le l
    rw [dcount, List.length_cons]
    split <;> omega
theorem dcount_app : ∀ a b, dcount (a ++ b) = dcount a + dcount b
  | [], b => by simp [dcount]
  | x :: a, b => by
    rw [List.cons_append, dcount, dcount, dcount_app a b, Nat.add_assoc]
theorem sig_le : ∀ (y x : List UInt8) (c : Nat) (s : Bool), (x = [] ∨ ∃ t, x = 101 :: t) → sig (y ++ x) c s ≤ c + dcount y
  | [], x, c, s, h => by
    rcases h with rfl | ⟨t, rfl⟩ <;> simp [sig]
  | a :: y, x, c, s, h => by
    have i1 := sig_le y x (c + 1) true h
    have i2 := sig_le y x c false h
    have i3 := sig_le y x c s h
    rw [List.cons_append, sig, dcount]
    split
    · omega
    · split
      · split <;> omega
      · omega
theorem sig_zero : ∀ (k : Nat) (l : List UInt8), sig (List.replicate k 48 ++ l) 0 false = sig l 0 false
  | 0, l => by simp
  | k + 1, l => by
    rw [List.replicate_succ, List.cons_append, sig, if_neg (by decide), if_pos (by decide), if_neg (by decide)]
    exact sig_zero k l
theorem sig_dot (l : List UInt8) (c : Nat) (s : Bool) : sig (46 :: l) c s = sig l c s := by
  rw [sig, if_neg (by decide), if_neg (by decide)]
theorem sig_minus (l : List UInt8) (c : Nat) (s : Bool) : sig (45 :: l) c s = sig l c s := by
  rw [sig, if_neg (by decide), if_neg (by decide)]
theorem dcount_dot (l : List UInt8) : dcount (46 :: l) = dcount l := by
  rw [dcount, if_neg (by decide), Nat.zero_add]
theorem sig_e {D : List UInt8} {n : Int} (hl : D.length ≤ 17) (hD : D ≠ []) : sig (lit (eTxt D n)) 0 false ≤ 17 := by
  have hc : Lib.containsAny (eTxt D n) [46, 101] = true := ca_true (c := 101) (.inr rfl) (by simp [eTxt])
  unfold lit
  rw [if_pos hc]
  unfold eTxt
  rw [List.append_assoc, List.append_assoc]
  have h1 := sig_le (mant D) ([101] ++ ((if n < 0 then [45] else [43]) ++ exp2 n.natAbs)) 0 false (.inr ⟨_, rfl⟩)
  have h2 : dcount (mant D) ≤ D.length := by
    cases D with
    | nil => exact absurd rfl hD
    | cons d t =>
      cases t with
      | nil => exact dcount_le [d]
      | cons e t =>
        show dcount (d :: 46 :: e :: t) ≤ _
        rw [dcount, dcount_dot]
        have := dcount_le (e :: t)
        simp only [List.length_cons] at *
        split <;> omega
  omega
theorem sig_f {D : List UInt8} {dp : Int} (hl : D.length ≤ 17) (hd : allDig D) (h6 : dp ≤ 6) : sig (lit (fTxt D dp)) 0 false ≤ 17 := by
  unfold fTxt
  by_cases hp : 0 < dp
  · rw [if_pos hp]
    by_cases hq : dp < D.length
    · rw [if_pos hq, show dp.toNat - D.length = 0 by omega, show (-dp).toNat = 0 by omega, List.replicate_zero, List.append_nil, List.nil_append]
      have hc : Lib.containsAny (List.take dp.toNat D ++ 46 :: List.drop dp.toNat D) [46, 101] = true := ca_true (c := 46) (.inl rfl) (by simp)
      unfold lit
      rw [if_pos hc]
      have h1 := sig_le (List.take dp.toNat D ++ 46 :: List.drop dp.toNat D) [] 0 false (.inl rfl)
      rw [List.append_nil, dcount_app, dcount_dot] at h1
      have h2 := dcount_le (List.take dp.toNat D)
      have h3 := dcount_le (List.drop dp.toNat D)
      rw [List.length_take] at h2
      rw [List.length_drop] at h3
      omega
    · rw [if_neg hq, List.append_nil]
      have hc : Lib.containsAny (List.take dp.toNat D ++ List.replicate (dp.toNat - D.length) 48) [46, 101] = false := ca_false (fun c hc => dig_not (app_dig (fun c hc => hd c (List.mem_of_mem_take hc)) (rep_dig _) c hc))
      unfold lit
      rw [hc]
      have h1 := sig_le (List.take dp.toNat D ++ List.replicate (dp.toNat - D.length) 48 ++ [46, 48]) [] 0 false (.inl rfl)
      have h2 := dcount_le (List.take dp.toNat D ++ List.replicate (dp.toNat - D.length) 48 ++ [46, 48])
      simp only [List.append_nil] at h1
      simp only [List.length_append, List.length_take, List.length_replicate, List.length_cons, List.length_nil] at h2
      simp only [Bool.false_eq_true, if_false]
      omega
  · rw [if_neg hp]
    by_cases hq : dp < D.length
    · rw [if_pos hq]
      have hc : Lib.containsAny ([48] ++ 46 :: (List.replicate (-dp).toNat 48 ++ D.drop dp.toNat)) [46, 101] = true := ca_true (c := 46) (.inl rfl) (by simp)
      unfold lit
      rw [if_pos hc]
      rw [show ([48] : List UInt8) = List.replicate 1 48 from rfl, sig_zero, sig_dot, sig_zero]
      have h1 := sig_le (D.drop dp.toNat) [] 0 false (.inl rfl)
      have h2 := dcount_le (D.drop dp.toNat)
      rw [List.append_nil] at h1
      rw [List.length_drop] at h2
      omega
    · rw [if_neg hq, List.append_nil]
      decide
theorem nDig_small {d : Nat} (h : d < 100000000000000000) : Lib.nDigits d ≤ 17 := by
  have key : ∀ (k d : Nat), d < 10 ^ (k + 1) → Lib.nDigits d ≤ k + 1 := by
    intro k
    induction k with
    | zero => intro d hd; rw [Lib.nDigits_small (by simpa using hd)]; omega
    | succ k ih =>
      intro d hd
      by_cases h10 : d < 10
      · rw [Lib.nDigits_small h10]; omega
      · rw [Lib.nDigits_big h10]
        have := ih (d / 10) (by rw [Nat.div_lt_iff_lt_mul (by decide), ← Nat.pow_succ]; exact hd)
        omega
  exact key 16 d (by simpa using h)
theorem fin_sig {mant : Nat} {xp : Int} (h1 : 1 ≤ mant) (h2 : mant < 9007199254740992) (h3 : -1022 ≤ xp) (h4 : xp ≤ 1023) (h5 : mant < 4503599627370496 → xp = -1022) : sig (lit (fin TH0 TL0 mant xp)) 0 false ≤ 17 := by
  obtain ⟨s, hs1, hs2, hs3, hs4, hs5, hs6, hs7⟩ := shiftUp h1 h2
  unfold fin
  simp only
  rw [hs3, Int.toNat_natCast]
  obtain ⟨d1, d2, d3, d4⟩ := SF_ok (TL := TL0) TH0_ok hs4 hs5 (e := xp - s - 52) (by omega)
  have hsm : (SF TH0 TL0 (mant * 2 ^ s) (xp - s - 52)).1 < 100000000000000000 := by
    refine SF_small hs4 hs5 (by omega) ?_
    have hpow : 2 ^ s = 2 * 2 ^ (s - 1) := by rw [← Nat.pow_succ']; congr 1; omega
    have hle : mant * 2 ^ s + 2 ^ s ≤ 18446744073709551616 := by
      have e64 : (18446744073709551616 : Nat) = 2 ^ (64 - s) * 2 ^ s := by rw [← Nat.pow_add, show 64 - s + s = 64 by omega]
      have hlt : mant < 2 ^ (64 - s) := by
        rw [e64] at hs5
        exact Nat.lt_of_mul_lt_mul_right hs5
      rw [e64, ← Nat.succ_mul]
      exact Nat.mul_le_mul_right _ hlt
    split
    · have h11 : 2 ^ 11 ≤ 2 ^ s := Nat.pow_le_pow_right (by decide) hs1
      omega
    · next hneg =>
      have hxp : xp = -1022 := by
        rcases Nat.lt_or_ge mant 4503599627370496 with h | h
        · exact h5 h
        · have := hs6 h; omega
      rw [show (-1074 - (xp - s - 52)).toNat = s by omega]
      have := Nat.pow_pos (n := s - 1) (show 0 < 2 by decide)
      omega
  generalize SF TH0 TL0 (mant * 2 ^ s) (xp - s - 52) = r at *
  have hp := trim_pos d1
  have hn := nDig_small hsm
  have hl := trimz_le (Lib.decDigits r.1)
  rw [Lib.decDigits_length] at hl
  unfold gTxt
  rw [if_neg (List.length_pos_iff.1 hp)]
  split
  · exact sig_e (by omega) (List.length_pos_iff.1 hp)
  · exact sig_f (by omega) (trim_dig (dec_dig _)) (by omega)
end Go.Proofs.Qxb6604548aDoor
