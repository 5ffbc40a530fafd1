import Derived.Test.Qxb6604548aDoorF3
import Derived.WalkSmall
namespace Go.Proofs.Qxb6604548aDoor
open Go.RowKit

def RIb (w : World) (k : IntKind) (n : Int) (e : Ending) (w' : World) : Prop := e = .returned (.int k n) ∧ Below w.heap.size w w'
/-- uscale's end: hi, mid of x * pmHi; mid2 of x * pmLo. -/
def us2 (hi mid mid2 s : Nat) : Nat :=
  if hi / 2 ^ s * 2 ^ s ≠ hi then (hi / 2 ^ s) ||| 1
  else ((hi + 18446744073709551616 - (if mid < mid2 then 1 else 0)) % 18446744073709551616 / 2 ^ s) ||| (if 1 < (mid + 18446744073709551616 - mid2) % 18446744073709551616 then 1 else 0)
/-- uscale, plainly. -/
def us (x H L s : Nat) : Nat := us2 (x * H / 18446744073709551616) (x * H % 18446744073709551616) (x * L / 18446744073709551616) s
theorem bool2_t (w : World) : Calls Tryd.prog 67 #[.bool true] w fun e w' => e = .returned (.int .u64 1) ∧ w' = w := bool2_any true w
theorem bool2_f (w : World) : Calls Tryd.prog 67 #[.bool false] w fun e w' => e = .returned (.int .u64 0) ∧ w' = w := bool2_any false w
theorem and63 : ∀ s : Fin 64, bits .and .i64 ((s.val : Nat) : Int) 63 = ((s.val : Nat) : Int) := by decide +kernel
theorem pow_cast (s : Nat) : ((2 : Int) ^ s) = ((2 ^ s : Nat) : Int) := by simp
theorem or_cast {a b : Nat} (ha : a < 18446744073709551616) (hb : b < 18446744073709551616) : bits .or .u64 (a : Int) (b : Int) = ((a ||| b : Nat) : Int) := bits_or_u64_nat a b ha hb

set_option maxHeartbeats 1000000 in
theorem uscale_any (b x H L s : Nat) (w : World) (hx : x < 18446744073709551616) (hH : H < 18446744073709551616) (hL : L < 18446744073709551616) (hs : s < 64)
    (c0 : w.cell? ⟨b, 0, none⟩ = some (.int .u64 H)) (c1 : w.cell? ⟨b, 1, none⟩ = some (.int .u64 L)) (c2 : w.cell? ⟨b, 2, none⟩ = some (.int .i64 s)) :
    Calls Tryd.prog 48 #[.int .u64 x, .pointer (some ⟨b, 0, none⟩)] w fun e w' => RIb w .u64 (us x H L s) e w' := by
  have h63 : bits .and .i64 (s : Int) 63 = (s : Int) := and63 ⟨s, hs⟩
  have HM2 := Tryd.bits_Mul64 x L hx hL w
  have hhi0 : x * H / 18446744073709551616 < 18446744073709551616 := by
    rw [Nat.div_lt_iff_lt_mul (by decide)]
    exact Nat.mul_lt_mul'' hx hH
  have hmid0 : x * H % 18446744073709551616 < 18446744073709551616 := Nat.mod_lt _ (by decide)
  have hmid20 : x * L / 18446744073709551616 < 18446744073709551616 := by
    rw [Nat.div_lt_iff_lt_mul (by decide)]
    exact Nat.mul_lt_mul'' hx hL
  go_enter Tryd.func48, Tryd.ntmps48
  go_wp2_with fail
  refine (Tryd.bits_Mul64 x H hx hH w).mono ?_
  rintro e w' ⟨rfl, hw⟩
  obtain rfl := hw.symm
  clear hw
  generalize hh1 : x * H / 18446744073709551616 = hi at *
  generalize hh2 : x * H % 18446744073709551616 = mid at *
  generalize hh3 : x * L / 18446744073709551616 = mid2 at *
  have HU : Aside (us x H L s = us2 hi mid mid2 s) := by rw [Aside, us, hh1, hh2, hh3]
  clear hh1 hh2 hh3
  have hpp : 0 < 2 ^ s := Nat.two_pow_pos s
  have hle : hi / 2 ^ s * 2 ^ s ≤ hi := Nat.div_mul_le_self _ _
  have hlt : hi / 2 ^ s < 18446744073709551616 := Nat.lt_of_le_of_lt (Nat.div_le_self _ _) hhi0
  have hc1 : ((hi : Int) / 2 ^ s) = ((hi / 2 ^ s : Nat) : Int) := by rw [pow_cast]; rfl
  have hwr : IntKind.u64.wrap ((hi : Int) / 2 ^ s * 2 ^ s) = ((hi / 2 ^ s * 2 ^ s : Nat) : Int) := by
    rw [hc1, pow_cast, IntKind.wrap_u64, ← Int.natCast_mul]
    omega
  by_cases heq : hi / 2 ^ s * 2 ^ s = hi
  · have hb : (IntKind.u64.wrap ((hi : Int) / 2 ^ s * 2 ^ s) != (hi : Int)) = false := by rw [hwr, heq]; simp
    have HEQ : Aside (hi / 2 ^ s * 2 ^ s = hi) := heq
    clear hc1 hwr hle hlt heq hpp
    go_wp2_with fail
    refine HM2.mono ?_
    rintro e w' ⟨rfl, hw⟩
    obtain rfl := hw.symm
    clear hw HM2 hb
    generalize x * L % 18446744073709551616 = lo2 at *
    have hwm : IntKind.u64.wrap ((mid : Int) - (mid2 : Int)) = (((mid + 18446744073709551616 - mid2) % 18446744073709551616 : Nat) : Int) := by rw [IntKind.wrap_u64]; omega
    generalize hdf : (mid + 18446744073709551616 - mid2) % 18446744073709551616 = df at *
    have hwh : ∀ q : Nat, q ≤ 1 → IntKind.u64.wrap ((hi : Int) - (q : Int)) = (((hi + 18446744073709551616 - q) % 18446744073709551616 : Nat) : Int) := fun q hq => by rw [IntKind.wrap_u64]; omega
    cases hq1 : decide ((mid : Int) < (mid2 : Int)) with
    | true =>
      have hq1' : (mid : Int) < (mid2 : Int) := of_decide_eq_true hq1
      have hw0 := hwh 1 (by omega)
      generalize hh2 : (hi + 18446744073709551616 - 1) % 18446744073709551616 = h2 at *
      have hh2b : h2 < 18446744073709551616 := by omega
      have HU2 : Aside (us x H L s = (h2 / 2 ^ s) ||| (if 1 < df then 1 else 0)) := by
        rw [Aside, HU.out, us2, if_neg (by simpa using HEQ.out), if_pos (by omega), hdf, hh2]
      have hc1 : ((h2 : Int) / 2 ^ s) = ((h2 / 2 ^ s : Nat) : Int) := by rw [pow_cast]; rfl
      have hlt2 : h2 / 2 ^ s < 18446744073709551616 := Nat.lt_of_le_of_lt (Nat.div_le_self _ _) hh2b
      have hw1 : IntKind.u64.wrap ((hi : Int) - 1) = (h2 : Int) := hw0
      clear hw0 hwh HU
      cases hq2 : decide ((1 : Int) < (df : Int)) with
      | true =>
        have hor : bits .or .u64 ((h2 : Int) / 2 ^ s) 1 = ((h2 / 2 ^ s ||| 1 : Nat) : Int) := by
          rw [hc1]; exact or_cast hlt2 (by decide)
        have HU3 : Aside (us x H L s = (h2 / 2 ^ s) ||| 1) := by
          have := of_decide_eq_true hq2
          rw [Aside, HU2.out, if_pos (by omega)]
        have HC1 : Aside (((h2 : Int) / 2 ^ s) = ((h2 / 2 ^ s : Nat) : Int)) := hc1
        clear hc1 hlt2 HU2
        have hq2' : (1 : Int) < (df : Int) := of_decide_eq_true hq2
        go_upto_region 7 with (go_at_call 67; refine (bool2_any true _).mono ?_; rintro e w' ⟨rfl, hw⟩; rw [hw])
        go_quiet ((go_at_call 67; exact Calls.quiet_of_same (bool2_t _)))
        go_wp2
        go_ret
        exact ⟨ret_int (by first | (rw [HU3.out]; done) | (rw [HU3.out, Nat.or_zero]; exact HC1.out)), below_drewN (Below.refl _ _) _⟩
      | false =>
        have hor : bits .or .u64 ((h2 : Int) / 2 ^ s) 0 = ((h2 / 2 ^ s ||| 0 : Nat) : Int) := by
          rw [hc1]; exact or_cast hlt2 (by decide)
        have HU3 : Aside (us x H L s = (h2 / 2 ^ s) ||| 0) := by
          have := of_decide_eq_false hq2
          rw [Aside, HU2.out, if_neg (by omega)]
        have HC1 : Aside (((h2 : Int) / 2 ^ s) = ((h2 / 2 ^ s : Nat) : Int)) := hc1
        clear hc1 hlt2 HU2
        have hq2' : ¬ (1 : Int) < (df : Int) := of_decide_eq_false hq2
        have hq2n : decide (1 < df) = false := decide_eq_false (by omega)
        go_upto_region 7 with (go_at_call 67; refine (bool2_any true _).mono ?_; rintro e w' ⟨rfl, hw⟩; rw [hw])
        go_quiet ((go_at_call 67; exact Calls.quiet_of_same (bool2_f _)))
        go_wp2
        go_ret
        exact ⟨ret_int (by first | (rw [HU3.out]; done) | (rw [HU3.out, Nat.or_zero]; exact HC1.out)), below_drewN (Below.refl _ _) _⟩
    | false =>
      have hq1' : ¬ (mid : Int) < (mid2 : Int) := of_decide_eq_false hq1
      have hq1n : decide (mid < mid2) = false := decide_eq_false (by omega)
      have hw0 := hwh 0 (by omega)
      generalize hh2 : (hi + 18446744073709551616 - 0) % 18446744073709551616 = h2 at *
      have hh2b : h2 < 18446744073709551616 := by omega
      have HU2 : Aside (us x H L s = (h2 / 2 ^ s) ||| (if 1 < df then 1 else 0)) := by
        rw [Aside, HU.out, us2, if_neg (by simpa using HEQ.out), if_neg (by omega), hdf, hh2]
      have hc1 : ((h2 : Int) / 2 ^ s) = ((h2 / 2 ^ s : Nat) : Int) := by rw [pow_cast]; rfl
      have hlt2 : h2 / 2 ^ s < 18446744073709551616 := Nat.lt_of_le_of_lt (Nat.div_le_self _ _) hh2b
      have hw1 : IntKind.u64.wrap ((hi : Int) - 0) = (h2 : Int) := hw0
      clear hw0 hwh HU
      obtain rfl : h2 = hi := by omega
      cases hq2 : decide ((1 : Int) < (df : Int)) with
      | true =>
        have hor : bits .or .u64 ((h2 : Int) / 2 ^ s) 1 = ((h2 / 2 ^ s ||| 1 : Nat) : Int) := by
          rw [hc1]; exact or_cast hlt2 (by decide)
        have HU3 : Aside (us x H L s = (h2 / 2 ^ s) ||| 1) := by
          have := of_decide_eq_true hq2
          rw [Aside, HU2.out, if_pos (by omega)]
        have HC1 : Aside (((h2 : Int) / 2 ^ s) = ((h2 / 2 ^ s : Nat) : Int)) := hc1
        clear hc1 hlt2 HU2
        have hq2' : (1 : Int) < (df : Int) := of_decide_eq_true hq2
        go_upto_region 7 with (go_at_call 67; refine (bool2_any false _).mono ?_; rintro e w' ⟨rfl, hw⟩; rw [hw])
        go_quiet ((go_at_call 67; exact Calls.quiet_of_same (bool2_t _)))
        go_wp2
        go_ret
        exact ⟨ret_int (by first | (rw [HU3.out]; done) | (rw [HU3.out, Nat.or_zero]; exact HC1.out)), below_drewN (Below.refl _ _) _⟩
      | false =>
        have hor : bits .or .u64 ((h2 : Int) / 2 ^ s) 0 = ((h2 / 2 ^ s ||| 0 : Nat) : Int) := by
          rw [hc1]; exact or_cast hlt2 (by decide)
        have HU3 : Aside (us x H L s = (h2 / 2 ^ s) ||| 0) := by
          have := of_decide_eq_false hq2
          rw [Aside, HU2.out, if_neg (by omega)]
        have HC1 : Aside (((h2 : Int) / 2 ^ s) = ((h2 / 2 ^ s : Nat) : Int)) := hc1
        clear hc1 hlt2 HU2
        have hq2' : ¬ (1 : Int) < (df : Int) := of_decide_eq_false hq2
        have hq2n : decide (1 < df) = false := decide_eq_false (by omega)
        go_upto_region 7 with (go_at_call 67; refine (bool2_any false _).mono ?_; rintro e w' ⟨rfl, hw⟩; rw [hw])
        go_quiet ((go_at_call 67; exact Calls.quiet_of_same (bool2_f _)))
        go_wp2
        go_ret
        exact ⟨ret_int (by first | (rw [HU3.out]; done) | (rw [HU3.out, Nat.or_zero]; exact HC1.out)), below_drewN (Below.refl _ _) _⟩
  · have hor : bits .or .u64 ((hi : Int) / 2 ^ s) 1 = ((hi / 2 ^ s ||| 1 : Nat) : Int) := by
      rw [hc1]; exact or_cast hlt (by decide)
    have hb : (IntKind.u64.wrap ((hi : Int) / 2 ^ s * 2 ^ s) != (hi : Int)) = true := by rw [hwr]; exact bne_iff_ne.2 (fun h => heq (Int.ofNat.inj h))
    have HEQ : Aside (hi / 2 ^ s * 2 ^ s ≠ hi) := heq
    clear HM2 hc1 hwr hle hlt heq hpp
    go_wp2
    go_ret
    refine ⟨ret_int ?_, Below.refl _ _⟩
    rw [HU.out, us2, if_pos HEQ.out]
end Go.Proofs.Qxb6604548aDoor
