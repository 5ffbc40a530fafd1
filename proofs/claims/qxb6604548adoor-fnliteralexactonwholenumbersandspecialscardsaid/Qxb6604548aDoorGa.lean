import Derived.Test.Qxb6604548aDoorFf
import GoSem.PinnedTables
namespace Go.Proofs.Qxb6604548aDoor
open Go.RowKit

def TH0 (k : Nat) : Nat := (Go.Pinned.pow10Rows.getD k (0, 0)).1
def TL0 (k : Nat) : Nat := (Go.Pinned.pow10Rows.getD k (0, 0)).2

theorem or_one_le (a : Nat) {b : Nat} (hb : b ≤ 1) : a ||| b ≤ a + 1 := by
  have h1 : (a ||| b) / 2 = a / 2 := by rw [Nat.or_div_two, (by omega : b / 2 = 0), Nat.or_zero]
  omega
theorem us_le {x H L s : Nat} (h1 : 18446744073709551616 ≤ x * H) (hx : x < 18446744073709551616) (hH : H < 18446744073709551616) : us x H L s ≤ x * H / 18446744073709551616 / 2 ^ s + 1 := by
  have hhi0 : x * H / 18446744073709551616 < 18446744073709551616 := by
    rw [Nat.div_lt_iff_lt_mul (by decide)]
    exact Nat.mul_lt_mul'' hx hH
  have hhi1 : 1 ≤ x * H / 18446744073709551616 := by
    rw [Nat.le_div_iff_mul_le (by decide)]; omega
  unfold us us2
  generalize x * H / 18446744073709551616 = hi at *
  split
  · exact or_one_le _ (Nat.le_refl _)
  · refine Nat.le_trans (or_one_le _ (by split <;> decide)) (Nat.add_le_add_right (Nat.div_le_div_right ?_) 1)
    split <;> omega
theorem us_zero {x H s : Nat} (hx : x < 18446744073709551616) (hH : H < 18446744073709551616) : x * H / (18446744073709551616 * 2 ^ s) ≤ us x H 0 s ∧ us x H 0 s ≤ x * H / (18446744073709551616 * 2 ^ s) + 1 := by
  have hhi0 : x * H / 18446744073709551616 < 18446744073709551616 := by
    rw [Nat.div_lt_iff_lt_mul (by decide)]
    exact Nat.mul_lt_mul'' hx hH
  rw [← Nat.div_div_eq_div_mul]
  unfold us us2
  rw [Nat.mul_zero, Nat.zero_div, if_neg (Nat.not_lt_zero _), Nat.sub_zero, Nat.add_mod_right, Nat.mod_eq_of_lt hhi0]
  generalize x * H / 18446744073709551616 = hi at *
  split
  · exact ⟨Nat.left_le_or, or_one_le _ (Nat.le_refl _)⟩
  · exact ⟨Nat.left_le_or, or_one_le _ (by split <;> decide)⟩

/-- what the table says at a whole number's exponent. -/
def okE (p e : Int) (t c : Nat) : Bool :=
  let H := TH0 (p + 348).toNat
  let K := 18446744073709551616 * 2 ^ sfS p e
  decide (TL0 (p + 348).toNat = 0) && decide (2 ^ (t + 11) * H = 4 * 10 ^ p.toNat * K) && decide (K < c * H) && decide (2 * K ≤ 1024 * H) && decide (1024 * H < 30 * K) && decide (0 ≤ p) && decide (0 < p ∨ t = 0) && decide (8 ≤ 2 ^ sfS p e) && decide (H < 18446744073709551616) && decide (p = 0 → c * H = 2 * K ∧ 1024 * H = 2 * K)
theorem okB : ∀ t : Fin 53, okE (-((-(t.val : Int) - 11 + 11) * 78913 / 262144)) (-(t.val : Int) - 11) t.val 1024 = true := by decide +kernel
theorem okA : ∀ t : Fin 53, okE (-(((-(t.val : Int) - 11 + 11) * 631305 - 261663) / 2097152)) (-(t.val : Int) - 11) t.val 512 = true := by decide +kernel
/-- d * 10 ^ q is n. -/
def IsN (n : Nat) (r : Nat × Int) : Prop := ∃ j k : Nat, r.1 * 10 ^ j = n * 10 ^ k ∧ r.2 = (j : Int) - k ∧ 1 ≤ r.1
theorem whole_sfT {p e : Int} {t c n m odd mn mx : Nat} (h : okE p e t c = true) (hm : m = n * 2 ^ (t + 11)) (hn : 1 ≤ n) (hm1 : 9223372036854775808 ≤ m) (hm2 : m + 1024 < 18446744073709551616) (hc : c ≤ 1024) (hmn : mn = m - c) (hmx : mx = m + 1024) (hod : odd ≤ 1) : IsN n (sfT TH0 TL0 p e odd mn mx m) := by
  unfold okE at h
  simp only [Bool.and_eq_true, decide_eq_true_eq] at h
  obtain ⟨⟨⟨⟨⟨⟨⟨⟨⟨h1, h2⟩, h3⟩, h4⟩, h5⟩, h6⟩, h7⟩, h8⟩, h9⟩, h10⟩ := h
  unfold sfT
  rw [h1]
  obtain ⟨q, rfl⟩ : ∃ q : Nat, p = (q : Int) := ⟨p.toNat, by omega⟩
  generalize hs : sfS (q : Int) e = s at *
  generalize TH0 ((q : Int) + 348).toNat = H at *
  rw [Int.toNat_natCast] at h2
  obtain ⟨a1, a2⟩ := us_zero (x := mn) (s := s) (by omega) h9
  obtain ⟨b1, b2⟩ := us_zero (x := mx) (s := s) (by omega) h9
  generalize hK : 18446744073709551616 * 2 ^ s = K at *
  have hKp : 0 < K := by omega
  generalize hN : n * 10 ^ q = N at *
  have hmH : m * H = 4 * N * K := by
    rw [hm, Nat.mul_assoc, h2, ← hN]
    ac_rfl
  have hN1 : 1 ≤ N := by rw [← hN]; exact Nat.mul_pos hn (Nat.pow_pos (by decide))
  have hmx2 : mx * H = 4 * N * K + 1024 * H := by rw [hmx, Nat.add_mul, hmH]
  have hmn2 : mn * H + c * H = 4 * N * K := by rw [hmn, ← Nat.add_mul, Nat.sub_add_cancel (by omega), hmH]
  have q3 : mx * H / K = 4 * N + 1024 * H / K := by rw [hmx2, Nat.add_comm, Nat.add_mul_div_right _ _ hKp, Nat.add_comm]
  have q4 : 2 ≤ 1024 * H / K := (Nat.le_div_iff_mul_le hKp).2 h4
  have q5 : 1024 * H / K < 30 := (Nat.div_lt_iff_lt_mul hKp).2 h5
  have q6 : mn * H / K < 4 * N - 1 := by
    rw [Nat.div_lt_iff_lt_mul hKp, Nat.sub_mul]
    omega
  have hNb : 4 * N < 2305843009213693952 := by
    have h11 : m * H < 18446744073709551616 * 18446744073709551616 := Nat.mul_lt_mul'' (by omega) h9
    have h12 : 4 * N * (18446744073709551616 * 8) ≤ 4 * N * K := Nat.mul_le_mul_left _ (by omega)
    omega
  generalize us mn H 0 s = u1 at *
  generalize us mx H 0 s = u3 at *
  generalize us m H 0 s = u2 at *
  have d1 : dmn u1 odd ≤ N := by
    unfold dmn
    omega
  have d3 : N ≤ dmx u3 odd ∧ dmx u3 odd < N + 10 := by
    unfold dmx
    omega
  rcases Nat.eq_zero_or_pos q with hq | hq
  · subst hq
    obtain ⟨k1, k2⟩ := h10 rfl
    have e3 : 1024 * H / K = 2 := by rw [k2]; exact Nat.mul_div_cancel _ hKp
    have e1 : mn * H / K = 4 * N - 2 := by
      rw [show mn * H = (4 * N - 2) * K by rw [Nat.sub_mul]; omega]
      exact Nat.mul_div_cancel _ hKp
    have hNn : N = n := by rw [← hN]; simp
    have f1 : dmn u1 odd = N := by unfold dmn; omega
    have f3 : dmx u3 odd = N := by unfold dmx; omega
    unfold sfC
    rw [f1, f3]
    by_cases hd : N ≤ N / 10 * 10
    · rw [if_pos hd]
      exact ⟨1, 0, by simp; omega, by simp, by simp; omega⟩
    · rw [if_neg hd, if_neg (Nat.lt_irrefl _)]
      exact ⟨0, 0, by simp; omega, by simp, by simp; omega⟩
  · obtain ⟨r, rfl⟩ : ∃ r, q = r + 1 := ⟨q - 1, by omega⟩
    have hN10 : N = n * 10 ^ r * 10 := by rw [← hN, Nat.pow_succ]; ac_rfl
    have hr1 : 1 ≤ n * 10 ^ r := Nat.mul_pos hn (Nat.pow_pos (by decide))
    have hdd : dmx u3 odd / 10 = n * 10 ^ r := by omega
    unfold sfC
    rw [if_pos (by rw [hdd]; omega), hdd]
    exact ⟨0, r, by simp, by push_cast; omega, hr1⟩
theorem whole_SF {t n m : Nat} {e : Int} (ht : t < 53) (he : e = -(t : Int) - 11) (hm : m = n * 2 ^ (t + 11)) (hn : 1 ≤ n) (hm1 : 9223372036854775808 ≤ m) (hm2 : m + 1024 < 18446744073709551616) : IsN n (SF TH0 TL0 m e) := by
  unfold SF
  rw [Nat.mod_eq_of_lt hm2]
  subst he
  split
  · exact whole_sfT (okA ⟨t, ht⟩) hm hn hm1 hm2 (by decide) rfl rfl (by omega)
  · rw [if_pos (by omega)]
    exact whole_sfT (okB ⟨t, ht⟩) hm hn hm1 hm2 (by decide) rfl rfl (by omega)

/-! ### at most 17 digits -/
theorem sfT_small {TH TL : Nat → Nat} {p e : Int} {odd mn mx m X : Nat} (hod : odd ≤ 1) (h1 : mn ≤ X) (h2 : mx ≤ X) (h3 : m ≤ X) (l1 : 4611686018427387904 ≤ mn) (l2 : 4611686018427387904 ≤ mx) (l3 : 4611686018427387904 ≤ m)
    (g1 : mn < 18446744073709551616) (g2 : mx < 18446744073709551616) (g3 : m < 18446744073709551616) (hH : 9223372036854775808 ≤ TH (p + 348).toNat) (hH2 : TH (p + 348).toNat < 18446744073709551616) (hs1 : 5 ≤ sfS p e) (hs2 : sfS p e ≤ 58) (hb : X * TH (p + 348).toNat / 18446744073709551616 / 2 ^ sfS p e < 399999999999999980) : (sfT TH TL p e odd mn mx m).1 < 100000000000000000 := by
  unfold sfT
  generalize TH (p + 348).toNat = H at *
  generalize TL (p + 348).toNat = L at *
  generalize sfS p e = s at *
  have key : ∀ x, x ≤ X → 4611686018427387904 ≤ x → x < 18446744073709551616 → 7 ≤ us x H L s ∧ us x H L s < 399999999999999982 := by
    intro x hx hl hg
    have hxH : 4611686018427387904 * 9223372036854775808 ≤ x * H := Nat.mul_le_mul hl hH
    have := us_le (L := L) (s := s) (by omega : 18446744073709551616 ≤ x * H) hg hH2
    have h4 : x * H / 18446744073709551616 / 2 ^ s ≤ X * H / 18446744073709551616 / 2 ^ s := Nat.div_le_div_right (Nat.div_le_div_right (Nat.mul_le_mul_right _ hx))
    exact ⟨(us_ge hl hg hH hH2 hs2 hs1).1, by omega⟩
  have k1 := key mn h1 l1 g1
  have k2 := key mx h2 l2 g2
  have k3 := key m h3 l3 g3
  clear key hb hH hH2 h1 h2 h3 l1 l2 l3 g1 g2 g3 hs1 hs2
  generalize us mn H L s = u1 at *
  generalize us mx H L s = u2 at *
  generalize us m H L s = u3 at *
  have a1 : dmn u1 odd < 100000000000000000 := by unfold dmn; omega
  have a2 : dmx u2 odd < 100000000000000000 := by unfold dmx; omega
  have a3 : rnd u3 < 100000000000000000 := by
    unfold rnd
    have : u3 / 4 % 2 ≤ 1 := by omega
    generalize u3 / 4 % 2 = v at *
    rw [Nat.mod_eq_of_lt (by omega)]
    omega
  unfold sfC
  split
  · show dmx u2 odd / 10 < _
    omega
  · split
    · exact a3
    · exact a1
def okS (p e : Int) (X : Nat) : Bool := decide (5 ≤ sfS p e) && decide (sfS p e ≤ 58) && decide (X * TH0 (p + 348).toNat / 18446744073709551616 / 2 ^ sfS p e < 399999999999999980) && decide ((p + 348).toNat < 696)
theorem okS_A : ∀ i : Fin 2045, okS (-(((-1084 + (i.val : Int) + 11) * 631305 - 261663) / 2097152)) (-1084 + (i.val : Int)) 9223372036854776832 = true := by decide +kernel
theorem okS_B : ∀ i : Fin 2046, okS (-((-1085 + (i.val : Int) + 11) * 78913 / 262144)) (-1085 + (i.val : Int)) 18446744073709551616 = true := by decide +kernel
theorem okS_C : ∀ i : Fin 52, okS 324 (-1137 + (i.val : Int)) 18446744073709551616 = true := by decide +kernel
theorem TH0_all : (Go.Pinned.pow10Rows.all fun x => decide (9223372036854775808 ≤ x.1) && decide (x.1 < 18446744073709551616) && decide (x.2 < 18446744073709551616)) = true ∧ Go.Pinned.pow10Rows.length = 696 := by decide +kernel
theorem rows_at {k : Nat} (hk : k < 696) : ∃ x, Go.Pinned.pow10Rows[k]? = some x ∧ x.1 = TH0 k ∧ x.2 = TL0 k ∧ 9223372036854775808 ≤ x.1 ∧ x.1 < 18446744073709551616 ∧ x.2 < 18446744073709551616 := by
  obtain ⟨h1, h2⟩ := TH0_all
  have hl : k < Go.Pinned.pow10Rows.length := by rw [h2]; exact hk
  have h3 := List.all_eq_true.1 h1 _ (List.getElem_mem hl)
  simp only [Bool.and_eq_true, decide_eq_true_eq] at h3
  refine ⟨_, List.getElem?_eq_getElem hl, ?_, ?_, h3.1.1, h3.1.2, h3.2⟩
  · rw [TH0, List.getD_eq_getElem?_getD, List.getElem?_eq_getElem hl]; rfl
  · rw [TL0, List.getD_eq_getElem?_getD, List.getElem?_eq_getElem hl]; rfl
theorem TH0_ok : THok TH0 := fun k hk => by
  obtain ⟨x, _, h1, _, h3, h4, _⟩ := rows_at hk
  rw [← h1]
  exact ⟨h3, h4⟩
theorem SF_small {m : Nat} {e : Int} (hm1 : 9223372036854775808 ≤ m) (hm2 : m < 18446744073709551616) (he : -1137 ≤ e ∧ e ≤ 960) (hmx : m + (if -1085 ≤ e then 1024 else 2 ^ ((-1074 - e).toNat - 1)) < 18446744073709551616) : (SF TH0 TL0 m e).1 < 100000000000000000 := by
  unfold SF
  split
  · next h =>
    have hk := okS_A ⟨(e + 1084).toNat, by omega⟩
    rw [show -1084 + (((⟨(e + 1084).toNat, by omega⟩ : Fin 2045).val : Nat) : Int) = e by simp; omega] at hk
    unfold okS at hk
    simp only [Bool.and_eq_true, decide_eq_true_eq] at hk
    obtain ⟨⟨⟨k1, k2⟩, k3⟩, k4⟩ := hk
    have hT := TH0_ok _ k4
    rw [Nat.mod_eq_of_lt (show m + 1024 < 18446744073709551616 by omega)]
    exact sfT_small (X := 9223372036854776832) (by omega) (by omega) (by omega) (by omega) (by omega) (by omega) (by omega) (by omega) (by omega) hm2 hT.1 hT.2 k1 k2 k3
  · split
    · next h =>
      rw [if_pos h] at hmx
      have hk := okS_B ⟨(e + 1085).toNat, by omega⟩
      rw [show -1085 + (((⟨(e + 1085).toNat, by omega⟩ : Fin 2046).val : Nat) : Int) = e by simp; omega] at hk
      unfold okS at hk
      simp only [Bool.and_eq_true, decide_eq_true_eq] at hk
      obtain ⟨⟨⟨k1, k2⟩, k3⟩, k4⟩ := hk
      have hT := TH0_ok _ k4
      rw [Nat.mod_eq_of_lt hmx]
      exact sfT_small (X := 18446744073709551616) (by omega) (by omega) (by omega) (by omega) (by omega) (by omega) (by omega) (by omega) (by omega) hm2 hT.1 hT.2 k1 k2 k3
    · next h =>
      rw [if_neg h] at hmx
      have hk := okS_C ⟨(e + 1137).toNat, by omega⟩
      rw [show -1137 + (((⟨(e + 1137).toNat, by omega⟩ : Fin 52).val : Nat) : Int) = e by simp; omega] at hk
      unfold okS at hk
      simp only [Bool.and_eq_true, decide_eq_true_eq] at hk
      obtain ⟨⟨⟨k1, k2⟩, k3⟩, k4⟩ := hk
      have hT := TH0_ok _ k4
      rw [Nat.mod_eq_of_lt hmx]
      have hz : 2 ^ ((-1074 - e).toNat - 1) ≤ 2 ^ 62 := Nat.pow_le_pow_right (by decide) (by omega)
      generalize 2 ^ ((-1074 - e).toNat - 1) = Z at *
      exact sfT_small (X := 18446744073709551616) (by omega) (by omega) (by omega) (by omega) (by omega) (by omega) (by omega) (by omega) (by omega) hm2 hT.1 hT.2 k1 k2 k3
end Go.Proofs.Qxb6604548aDoor
