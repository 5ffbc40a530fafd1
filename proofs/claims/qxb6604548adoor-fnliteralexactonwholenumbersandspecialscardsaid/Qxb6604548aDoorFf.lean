import Derived.Test.Qxb6604548aDoorFe
namespace Go.Proofs.Qxb6604548aDoor
open Go.RowKit

def THok (TH : Nat → Nat) : Prop := ∀ k, k < 696 → 9223372036854775808 ≤ TH k ∧ TH k < 18446744073709551616
def SFok (r : Nat × Int) : Prop := 1 ≤ r.1 ∧ r.1 < 18446744073709551616 ∧ -349 ≤ r.2 ∧ r.2 ≤ 350
theorem rnd_pos {u : Nat} (h : 7 ≤ u) (h2 : u < 1152921504606846976) : 1 ≤ rnd u := by
  unfold rnd
  have ht : u / 4 % 2 < 2 := Nat.mod_lt _ (by decide)
  generalize u / 4 % 2 = t at *
  rw [Nat.mod_eq_of_lt (by omega)]
  omega
theorem sfT_ok {TH TL : Nat → Nat} (T : THok TH) {p e : Int} {odd mn mx m : Nat} (hp : -348 ≤ p ∧ p < 348) (hs5 : 5 ≤ sfS p e) (hs : sfS p e ≤ 58) (hod : odd ≤ 1) (hmn : 4611686018427387904 ≤ mn) (hmn2 : mn < 18446744073709551616) (hm : 9223372036854775808 ≤ m) (hm2 : m < 18446744073709551616) :
    SFok (sfT TH TL p e odd mn mx m) := by
  obtain ⟨hH1, hH2⟩ := T (p + 348).toNat (by omega)
  have u1 := us_ge (L := TL (p + 348).toNat) hmn hmn2 hH1 hH2 hs hs5
  have u3 := us_ge (L := TL (p + 348).toNat) (by omega : 4611686018427387904 ≤ m) hm2 hH1 hH2 hs hs5
  unfold sfT
  have a1 : 1 ≤ dmn (us mn (TH (p + 348).toNat) (TL (p + 348).toNat) (sfS p e)) odd := by
    unfold dmn
    omega
  have a3 : 1 ≤ rnd (us m (TH (p + 348).toNat) (TL (p + 348).toNat) (sfS p e)) := by
    exact rnd_pos u3.1 u3.2
  refine ⟨sfC_pos a1 a3, ?_, (sfC_p hp).1, (sfC_p hp).2⟩
  unfold sfC
  split
  · show dmx _ _ / 10 < _
    unfold dmx
    omega
  · split
    · show rnd _ < _
      unfold rnd
      exact Nat.lt_of_le_of_lt (Nat.div_le_self _ _) (Nat.mod_lt _ (by decide))
    · show dmn _ _ < _
      unfold dmn
      omega
theorem SF_ok {TH TL : Nat → Nat} (T : THok TH) {m : Nat} {e : Int} (hm1 : 9223372036854775808 ≤ m) (hm2 : m < 18446744073709551616) (he : -1137 ≤ e ∧ e ≤ 960) : SFok (SF TH TL m e) := by
  unfold SF
  split
  · next h =>
    obtain ⟨p, hp⟩ : ∃ p : Int, p = -(((e + 11) * 631305 - 261663) / 2097152) := ⟨_, rfl⟩
    have r1 := rangeA e (by omega) p _ hp rfl
    have r2 := rangeA5 e (by omega) p _ hp rfl
    rw [← hp]
    exact sfT_ok T (by omega) (by unfold sfS; omega) (by unfold sfS; omega) (by omega) (by omega) (by omega) hm1 hm2
  · split
    · next h =>
      obtain ⟨p, hp⟩ : ∃ p : Int, p = -((e + 11) * 78913 / 262144) := ⟨_, rfl⟩
      have r1 := rangeB e (by omega) p _ hp rfl
      have r2 := rangeB5 e (by omega) p _ hp rfl
      rw [← hp]
      exact sfT_ok T (by omega) (by unfold sfS; omega) (by unfold sfS; omega) (by omega) (by omega) (by omega) hm1 hm2
    · next h =>
      have r2 := rangeC5 e (by omega) 324 _ rfl rfl
      have hz : 2 ^ ((-1074 - e).toNat - 1) ≤ 2 ^ 62 := Nat.pow_le_pow_right (by decide) (by omega)
      have hod : m / 2 ^ (-1074 - e).toNat % 2 < 2 := Nat.mod_lt _ (by decide)
      generalize 2 ^ ((-1074 - e).toNat - 1) = P2 at *
      exact sfT_ok T (by omega) (by unfold sfS; omega) (by unfold sfS; omega) (by omega) (by omega) (by omega) hm1 hm2
theorem nDig_le {d : Nat} (h1 : 1 ≤ d) (h2 : d < 18446744073709551616) : Lib.nDigits d ≤ 20 := by
  obtain ⟨h, h3⟩ := Lib.numDigits_eq d h1 h2
  split at h <;> omega
end Go.Proofs.Qxb6604548aDoor
