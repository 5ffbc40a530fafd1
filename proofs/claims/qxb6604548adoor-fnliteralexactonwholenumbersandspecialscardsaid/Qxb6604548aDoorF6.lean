import Derived.Test.Qxb6604548aDoorF5
namespace Go.Proofs.Qxb6604548aDoor
open Go.RowKit
theorem rangeC2 (e : Int) (h : -1137 ≤ e ∧ e < -1085) (p lp : Int) (hp : p = 324) (hlp : lp = p * 108853 / 32768) : -348 ≤ p ∧ p < 348 ∧ 0 ≤ -(e + lp + 3) ∧ -(e + lp + 3) ≤ 63 ∧ -2000 ≤ lp ∧ lp ≤ 2000 := by omega

set_option maxHeartbeats 2000000 in
set_option maxRecDepth 100000 in
theorem sf_C (m : Nat) (e : Int) (TH TL : Nat → Nat) (w : World) (hm1 : 9223372036854775808 ≤ m) (hm2 : m < 18446744073709551616) (hm : m = 9223372036854775808) (z : Nat) (hz : (z : Int) = -1074 - e) (he : -1137 ≤ e ∧ e < -1085) (T : Tab TH TL w) :
    Calls Tryd.prog 37 #[.int .u64 m, .int .i64 e] w fun e1 w' => RSF w (sfT TH TL (324) e (m / 2 ^ z % 2) (m - 2 ^ (z - 1)) ((m + 2 ^ (z - 1)) % 18446744073709551616) m) e1 w' := by
  have HT : Aside (Tab TH TL w) := T
  have _ := hm1
  clear T
  obtain ⟨od, hod⟩ : ∃ od, od = m / 2 ^ z % 2 := ⟨_, rfl⟩
  obtain ⟨mn, hmn0⟩ : ∃ mn, mn = m - 2 ^ (z - 1) := ⟨_, rfl⟩
  obtain ⟨mx, hmx0⟩ : ∃ mx, mx = (m + 2 ^ (z - 1)) % 18446744073709551616 := ⟨_, rfl⟩
  have hodl : od ≤ 1 := by rw [hod]; exact Nat.lt_succ_iff.1 (Nat.mod_lt _ (by decide))
  have hz1 : 12 ≤ z ∧ z ≤ 63 := by omega
  have hz11 : 11 + (-1085 - e) = (z : Int) := by omega
  have hez : e + (z : Int) = -1074 := by omega
  have hP2 : 2 ^ (z - 1) ≤ 2 ^ 62 := Nat.pow_le_pow_right (by decide) (by omega)
  have hpc : ((2 : Int) ^ (z - 1)) = ((2 ^ (z - 1) : Nat) : Int) := pow_cast _
  have hmn : IntKind.u64.wrap ((m : Int) - IntKind.u64.wrap (2 ^ (z - 1))) = (mn : Int) := by
    rw [hpc, IntKind.wrap_u64, IntKind.wrap_u64, hmn0]
    generalize 2 ^ (z - 1) = P2 at *
    omega
  have hmx : IntKind.u64.wrap ((m : Int) + IntKind.u64.wrap (2 ^ (z - 1))) = (mx : Int) := by
    rw [hpc, IntKind.wrap_u64, IntKind.wrap_u64, hmx0]
    generalize 2 ^ (z - 1) = P2 at *
    omega
  have hmz : m / 2 ^ z < 9223372036854775808 := by
    have : m / 2 ^ z ≤ m / 2 := Nat.div_le_div_left (by calc 2 = 2 ^ 1 := rfl
                                                            _ ≤ 2 ^ z := Nat.pow_le_pow_right (by decide) (by omega)) (by decide)
    omega
  have hodd : bits .and .i64 (wrap64 ((m : Int) / 2 ^ z)) 1 = (od : Int) := by
    rw [pow_cast, show (m : Int) / ((2 ^ z : Nat) : Int) = ((m / 2 ^ z : Nat) : Int) from rfl, hod]
    generalize m / 2 ^ z = mz at *
    rw [show wrap64 (mz : Int) = (mz : Int) by rw [wrap64]; omega, show (1 : Int) = ((1 : Nat) : Int) from rfl, and_i64 _ _ hmz (by decide), Nat.and_one_is_mod]
  have hmnl : mn < 18446744073709551616 := by
    rw [hmn0]
    generalize 2 ^ (z - 1) = P2 at *
    omega
  have hmxl : mx < 18446744073709551616 := by rw [hmx0]; exact Nat.mod_lt _ (by decide)
  clear hz hpc hP2 hmz
  obtain ⟨p, hp⟩ : ∃ p : Int, p = 324 := ⟨_, rfl⟩
  obtain ⟨lp, hlp⟩ : ∃ lp : Int, lp = p * 108853 / 32768 := ⟨_, rfl⟩
  obtain ⟨q1, q2, q3, q4, q5, q6⟩ := rangeC2 e he p lp hp hlp
  obtain ⟨sh, hsh⟩ : ∃ sh : Nat, -(e + lp + 3) = (sh : Int) := ⟨(-(e + lp + 3)).toNat, by omega⟩
  have hshl : sh < 64 := by omega
  have hidx : (p + 348).toNat < 696 := by omega
  obtain ⟨tc1, tc2, hHl, hLl⟩ := HT.out (p + 348).toNat hidx
  have HPRE := prescale_any w e p lp (TH (p + 348).toNat) (TL (p + 348).toNat) ⟨q1, q2⟩ (by omega) (by omega) (fun cs => cell_later ((Below.refl _ _).alloc (Nat.le_refl _) _) tc1) (fun cs => cell_later ((Below.refl _ _).alloc (Nat.le_refl _) _) tc2)
  clear tc1 tc2
  generalize hHH : TH (p + 348).toNat = H at *
  generalize hLL : TL (p + 348).toNat = L at *
  have HFIN : Aside (∀ wz, Below w.heap.size w wz → ∀ (x y : Int) (a : Nat) (b : Int), x = (a : Int) → y = b → (sfC (dmn (us mn H L sh) od) (dmx (us mx H L sh) od) (us m H L sh) p) = (a, b) → RSF w (sfT TH TL (324) e (m / 2 ^ z % 2) (m - 2 ^ (z - 1)) ((m + 2 ^ (z - 1)) % 18446744073709551616) m) (.returned (.tuple #[.int .u64 x, .int .i64 y])) wz) := fun wz hz x y a b hxa hyb hr => ⟨by
    have hs2 : sfS p e = sh := by rw [sfS, ← hlp, hsh]; rfl
    rw [← hp, ← hod, ← hmn0, ← hmx0, sfT, hHH, hLL, hs2, hr, hxa, hyb], hz⟩
  have HP : Aside (324 = p) := hp.symm
  have HLP : Aside (p * 108853 / 32768 = lp) := hlp.symm
  have HSH : Aside (-(e + lp + 3) = (sh : Int)) := hsh
  clear hp hlp hsh hod hmn0 hmx0 hHH hLL
  have hmb : ((m : Int) == 9223372036854775808) = true := by rw [beq_iff_eq]; omega
  clear hm
  go_enter Tryd.func37, Tryd.ntmps37
  go_wp2_with fail
  refine (log10_any (-1074) w (by omega)).mono ?_
  rintro e1 w' ⟨rfl, hw⟩
  obtain rfl := hw.symm
  clear hw
  go_wp2_with fail
  first | rw [HP.out] | rw [show (324 : Int) = p from HP.out]
  refine (log2_any p _ (by omega)).mono ?_
  rintro e1 w' ⟨rfl, hw⟩
  obtain rfl := hw.symm
  clear hw
  rw [HLP.out]
  go_wp2_with fail
  refine HPRE.mono ?_
  rintro e1 w' ⟨rfl, hw⟩
  rw [HSH.out] at hw
  have hbW : Below w.heap.size w w' := by rw [hw]; exact (Below.refl _ _).alloc (Nat.le_refl _) _
  have HCE : Aside (∀ wx, Below w'.heap.size w' wx → wx.cell? ⟨w.heap.size, 0, none⟩ = some (.int .u64 H) ∧ wx.cell? ⟨w.heap.size, 1, none⟩ = some (.int .u64 L) ∧ wx.cell? ⟨w.heap.size, 2, none⟩ = some (.int .i64 (sh : Int))) := fun wx hx => by
    have h1 := heap_alloc_new w (.cells #[.int .u64 H, .int .u64 L, .int .i64 (sh : Int)] 74)
    refine ⟨cell_later hx ?_, cell_later hx ?_, cell_later hx ?_⟩
    all_goals rw [hw, preW, cell_of_row _ w.heap.size _ _ 74 (0, 0) h1]; rfl
  have HBW : Aside (Below w.heap.size w w') := hbW
  clear hbW hw HPRE HT
  go_wp2_with fail
  obtain ⟨k0, k1, k2⟩ := HCE.out w' (Below.refl _ _)
  refine (uscale_any w.heap.size mn H L sh w' hmnl hHl hLl hshl k0 k1 k2).mono ?_
  rintro e1 w1 ⟨rfl, hb1⟩
  have HB1 : Aside (Below w'.heap.size w' w1) := hb1
  clear hb1 k0 k1 k2
  have hu1 := us_lt (L := L) (s := sh) hmnl hHl
  generalize us mn H L sh = u1 at *
  go_wp2_with fail
  refine (nudge_any u1 od _).mono ?_
  rintro e1 w2 ⟨rfl, hw⟩
  obtain rfl := hw.symm
  clear hw
  rw [show ((u1 : Int) + (od : Int)) % 18446744073709551616 = (((u1 + od) % 18446744073709551616 : Nat) : Int) by omega]
  generalize hv1 : (u1 + od) % 18446744073709551616 = v1
  go_wp2_with fail
  refine (ceil_any v1 _).mono ?_
  rintro e1 w2 ⟨rfl, hw⟩
  obtain rfl := hw.symm
  clear hw
  generalize hA : (v1 + 3) % 18446744073709551616 / 4 = A
  have HAd0 : Aside (A = dmn u1 od) := by rw [Aside, dmn, hv1, hA]
  have hAl : A < 18446744073709551616 := by omega
  clear hA hv1
  go_wp2_with fail
  obtain ⟨k0, k1, k2⟩ := HCE.out _ HB1.out
  refine (uscale_any w.heap.size mx H L sh _ hmxl hHl hLl hshl k0 k1 k2).mono ?_
  rintro e1 w2 ⟨rfl, hb2⟩
  have HB2 : Aside (Below w'.heap.size w' w2) := HB1.out.trans (hb2.mono HB1.out.size)
  clear hb2 k0 k1 k2 HB1
  have hu2 := us_lt (L := L) (s := sh) hmxl hHl
  generalize us mx H L sh = u2 at *
  go_wp2_with fail
  refine (nudge_any u2 (-(od : Int)) _).mono ?_
  rintro e1 w3 ⟨rfl, hw⟩
  obtain rfl := hw.symm
  clear hw
  rw [show ((u2 : Int) + -(od : Int)) % 18446744073709551616 = (((u2 + 18446744073709551616 - od) % 18446744073709551616 : Nat) : Int) by omega]
  generalize hv2 : (u2 + 18446744073709551616 - od) % 18446744073709551616 = v2
  have hv2l : v2 < 18446744073709551616 := by omega
  go_wp2_with fail
  refine (floor_any v2 _ hv2l).mono ?_
  rintro e1 w3 ⟨rfl, hw⟩
  obtain rfl := hw.symm
  clear hw
  generalize hB : v2 / 4 = B
  have HBd0 : Aside (B = dmx u2 od) := by rw [Aside, dmx, hv2, hB]
  have hBl : B < 18446744073709551616 := by omega
  clear hB hv2
  have HBz : Aside (Below w.heap.size w w2) := HBW.out.trans (HB2.out.mono HBW.out.size)
  have HAd : Aside (A = dmn u1 od ∧ B = dmx u2 od) := ⟨HAd0.out, HBd0.out⟩
  by_cases h1 : A ≤ B / 10 * 10
  · have h1' : (A : Int) ≤ (B : Int) / 10 * 10 := by omega
    go_wp2
    go_ret2
    exact HFIN.out _ HBz.out _ _ (B / 10) (-(p - 1)) (by omega) (by omega) (by rw [sfC, ← HAd.out.1, ← HAd.out.2, if_pos h1])
  · have h1' : ¬ (A : Int) ≤ (B : Int) / 10 * 10 := by omega
    by_cases h2 : A < B
    · have h2' : (A : Int) < (B : Int) := by omega
      go_wp2_with fail
      obtain ⟨k0, k1, k2⟩ := HCE.out _ HB2.out
      refine (uscale_any w.heap.size m H L sh _ hm2 hHl hLl hshl k0 k1 k2).mono ?_
      rintro e1 w3 ⟨rfl, hb3⟩
      have HB3 : Aside (Below w.heap.size w w3) := HBz.out.trans (hb3.mono HBz.out.size)
      clear hb3 k0 k1 k2
      have hu3 := us_lt (L := L) (s := sh) hm2 hHl
      generalize us m H L sh = u3 at *
      go_wp2_with fail
      refine (round_any u3 _ hu3).mono ?_
      rintro e1 w4 ⟨rfl, hw⟩
      obtain rfl := hw.symm
      clear hw
      generalize hR : (u3 + 1 + u3 / 4 % 2) % 18446744073709551616 / 4 = R
      have HR : Aside (rnd u3 = R) := hR
      clear hR
      go_wp2
      go_ret2
      exact HFIN.out _ HB3.out _ _ R (-p) rfl rfl (by rw [sfC, ← HAd.out.1, ← HAd.out.2, if_neg h1, if_pos h2, HR.out])
    · have h2' : ¬ (A : Int) < (B : Int) := by omega
      go_wp2
      go_ret2
      exact HFIN.out _ HBz.out _ _ A (-p) rfl rfl (by rw [sfC, ← HAd.out.1, ← HAd.out.2, if_neg h1, if_neg h2])

set_option maxHeartbeats 2000000 in
set_option maxRecDepth 100000 in
theorem sf_E (m : Nat) (e : Int) (TH TL : Nat → Nat) (w : World) (hm1 : 9223372036854775808 ≤ m) (hm2 : m < 18446744073709551616) (hm : m ≠ 9223372036854775808) (z : Nat) (hz : (z : Int) = -1074 - e) (he : -1137 ≤ e ∧ e < -1085) (T : Tab TH TL w) :
    Calls Tryd.prog 37 #[.int .u64 m, .int .i64 e] w fun e1 w' => RSF w (sfT TH TL (324) e (m / 2 ^ z % 2) (m - 2 ^ (z - 1)) ((m + 2 ^ (z - 1)) % 18446744073709551616) m) e1 w' := by
  have HT : Aside (Tab TH TL w) := T
  have _ := hm1
  clear T
  obtain ⟨od, hod⟩ : ∃ od, od = m / 2 ^ z % 2 := ⟨_, rfl⟩
  obtain ⟨mn, hmn0⟩ : ∃ mn, mn = m - 2 ^ (z - 1) := ⟨_, rfl⟩
  obtain ⟨mx, hmx0⟩ : ∃ mx, mx = (m + 2 ^ (z - 1)) % 18446744073709551616 := ⟨_, rfl⟩
  have hodl : od ≤ 1 := by rw [hod]; exact Nat.lt_succ_iff.1 (Nat.mod_lt _ (by decide))
  have hz1 : 12 ≤ z ∧ z ≤ 63 := by omega
  have hz11 : 11 + (-1085 - e) = (z : Int) := by omega
  have hez : e + (z : Int) = -1074 := by omega
  have hP2 : 2 ^ (z - 1) ≤ 2 ^ 62 := Nat.pow_le_pow_right (by decide) (by omega)
  have hpc : ((2 : Int) ^ (z - 1)) = ((2 ^ (z - 1) : Nat) : Int) := pow_cast _
  have hmn : IntKind.u64.wrap ((m : Int) - IntKind.u64.wrap (2 ^ (z - 1))) = (mn : Int) := by
    rw [hpc, IntKind.wrap_u64, IntKind.wrap_u64, hmn0]
    generalize 2 ^ (z - 1) = P2 at *
    omega
  have hmx : IntKind.u64.wrap ((m : Int) + IntKind.u64.wrap (2 ^ (z - 1))) = (mx : Int) := by
    rw [hpc, IntKind.wrap_u64, IntKind.wrap_u64, hmx0]
    generalize 2 ^ (z - 1) = P2 at *
    omega
  have hmz : m / 2 ^ z < 9223372036854775808 := by
    have : m / 2 ^ z ≤ m / 2 := Nat.div_le_div_left (by calc 2 = 2 ^ 1 := rfl
                                                            _ ≤ 2 ^ z := Nat.pow_le_pow_right (by decide) (by omega)) (by decide)
    omega
  have hodd : bits .and .i64 (wrap64 ((m : Int) / 2 ^ z)) 1 = (od : Int) := by
    rw [pow_cast, show (m : Int) / ((2 ^ z : Nat) : Int) = ((m / 2 ^ z : Nat) : Int) from rfl, hod]
    generalize m / 2 ^ z = mz at *
    rw [show wrap64 (mz : Int) = (mz : Int) by rw [wrap64]; omega, show (1 : Int) = ((1 : Nat) : Int) from rfl, and_i64 _ _ hmz (by decide), Nat.and_one_is_mod]
  have hmnl : mn < 18446744073709551616 := by
    rw [hmn0]
    generalize 2 ^ (z - 1) = P2 at *
    omega
  have hmxl : mx < 18446744073709551616 := by rw [hmx0]; exact Nat.mod_lt _ (by decide)
  clear hz hpc hP2 hmz
  obtain ⟨p, hp⟩ : ∃ p : Int, p = 324 := ⟨_, rfl⟩
  obtain ⟨lp, hlp⟩ : ∃ lp : Int, lp = p * 108853 / 32768 := ⟨_, rfl⟩
  obtain ⟨q1, q2, q3, q4, q5, q6⟩ := rangeC2 e he p lp hp hlp
  obtain ⟨sh, hsh⟩ : ∃ sh : Nat, -(e + lp + 3) = (sh : Int) := ⟨(-(e + lp + 3)).toNat, by omega⟩
  have hshl : sh < 64 := by omega
  have hidx : (p + 348).toNat < 696 := by omega
  obtain ⟨tc1, tc2, hHl, hLl⟩ := HT.out (p + 348).toNat hidx
  have HPRE := prescale_any w e p lp (TH (p + 348).toNat) (TL (p + 348).toNat) ⟨q1, q2⟩ (by omega) (by omega) (fun cs => cell_later ((Below.refl _ _).alloc (Nat.le_refl _) _) tc1) (fun cs => cell_later ((Below.refl _ _).alloc (Nat.le_refl _) _) tc2)
  clear tc1 tc2
  generalize hHH : TH (p + 348).toNat = H at *
  generalize hLL : TL (p + 348).toNat = L at *
  have HFIN : Aside (∀ wz, Below w.heap.size w wz → ∀ (x y : Int) (a : Nat) (b : Int), x = (a : Int) → y = b → (sfC (dmn (us mn H L sh) od) (dmx (us mx H L sh) od) (us m H L sh) p) = (a, b) → RSF w (sfT TH TL (324) e (m / 2 ^ z % 2) (m - 2 ^ (z - 1)) ((m + 2 ^ (z - 1)) % 18446744073709551616) m) (.returned (.tuple #[.int .u64 x, .int .i64 y])) wz) := fun wz hz x y a b hxa hyb hr => ⟨by
    have hs2 : sfS p e = sh := by rw [sfS, ← hlp, hsh]; rfl
    rw [← hp, ← hod, ← hmn0, ← hmx0, sfT, hHH, hLL, hs2, hr, hxa, hyb], hz⟩
  have HP : Aside (324 = p) := hp.symm
  have HLP : Aside (p * 108853 / 32768 = lp) := hlp.symm
  have HSH : Aside (-(e + lp + 3) = (sh : Int)) := hsh
  clear hp hlp hsh hod hmn0 hmx0 hHH hLL
  have hmb : ((m : Int) == 9223372036854775808) = false := beq_eq_false_iff_ne.2 (by omega)
  clear hm
  go_enter Tryd.func37, Tryd.ntmps37
  go_wp2_with fail
  refine (log10_any (-1074) w (by omega)).mono ?_
  rintro e1 w' ⟨rfl, hw⟩
  obtain rfl := hw.symm
  clear hw
  go_wp2_with fail
  first | rw [HP.out] | rw [show (324 : Int) = p from HP.out]
  refine (log2_any p _ (by omega)).mono ?_
  rintro e1 w' ⟨rfl, hw⟩
  obtain rfl := hw.symm
  clear hw
  rw [HLP.out]
  go_wp2_with fail
  refine HPRE.mono ?_
  rintro e1 w' ⟨rfl, hw⟩
  rw [HSH.out] at hw
  have hbW : Below w.heap.size w w' := by rw [hw]; exact (Below.refl _ _).alloc (Nat.le_refl _) _
  have HCE : Aside (∀ wx, Below w'.heap.size w' wx → wx.cell? ⟨w.heap.size, 0, none⟩ = some (.int .u64 H) ∧ wx.cell? ⟨w.heap.size, 1, none⟩ = some (.int .u64 L) ∧ wx.cell? ⟨w.heap.size, 2, none⟩ = some (.int .i64 (sh : Int))) := fun wx hx => by
    have h1 := heap_alloc_new w (.cells #[.int .u64 H, .int .u64 L, .int .i64 (sh : Int)] 74)
    refine ⟨cell_later hx ?_, cell_later hx ?_, cell_later hx ?_⟩
    all_goals rw [hw, preW, cell_of_row _ w.heap.size _ _ 74 (0, 0) h1]; rfl
  have HBW : Aside (Below w.heap.size w w') := hbW
  clear hbW hw HPRE HT
  go_wp2_with fail
  obtain ⟨k0, k1, k2⟩ := HCE.out w' (Below.refl _ _)
  refine (uscale_any w.heap.size mn H L sh w' hmnl hHl hLl hshl k0 k1 k2).mono ?_
  rintro e1 w1 ⟨rfl, hb1⟩
  have HB1 : Aside (Below w'.heap.size w' w1) := hb1
  clear hb1 k0 k1 k2
  have hu1 := us_lt (L := L) (s := sh) hmnl hHl
  generalize us mn H L sh = u1 at *
  go_wp2_with fail
  refine (nudge_any u1 od _).mono ?_
  rintro e1 w2 ⟨rfl, hw⟩
  obtain rfl := hw.symm
  clear hw
  rw [show ((u1 : Int) + (od : Int)) % 18446744073709551616 = (((u1 + od) % 18446744073709551616 : Nat) : Int) by omega]
  generalize hv1 : (u1 + od) % 18446744073709551616 = v1
  go_wp2_with fail
  refine (ceil_any v1 _).mono ?_
  rintro e1 w2 ⟨rfl, hw⟩
  obtain rfl := hw.symm
  clear hw
  generalize hA : (v1 + 3) % 18446744073709551616 / 4 = A
  have HAd0 : Aside (A = dmn u1 od) := by rw [Aside, dmn, hv1, hA]
  have hAl : A < 18446744073709551616 := by omega
  clear hA hv1
  go_wp2_with fail
  obtain ⟨k0, k1, k2⟩ := HCE.out _ HB1.out
  refine (uscale_any w.heap.size mx H L sh _ hmxl hHl hLl hshl k0 k1 k2).mono ?_
  rintro e1 w2 ⟨rfl, hb2⟩
  have HB2 : Aside (Below w'.heap.size w' w2) := HB1.out.trans (hb2.mono HB1.out.size)
  clear hb2 k0 k1 k2 HB1
  have hu2 := us_lt (L := L) (s := sh) hmxl hHl
  generalize us mx H L sh = u2 at *
  go_wp2_with fail
  refine (nudge_any u2 (-(od : Int)) _).mono ?_
  rintro e1 w3 ⟨rfl, hw⟩
  obtain rfl := hw.symm
  clear hw
  rw [show ((u2 : Int) + -(od : Int)) % 18446744073709551616 = (((u2 + 18446744073709551616 - od) % 18446744073709551616 : Nat) : Int) by omega]
  generalize hv2 : (u2 + 18446744073709551616 - od) % 18446744073709551616 = v2
  have hv2l : v2 < 18446744073709551616 := by omega
  go_wp2_with fail
  refine (floor_any v2 _ hv2l).mono ?_
  rintro e1 w3 ⟨rfl, hw⟩
  obtain rfl := hw.symm
  clear hw
  generalize hB : v2 / 4 = B
  have HBd0 : Aside (B = dmx u2 od) := by rw [Aside, dmx, hv2, hB]
  have hBl : B < 18446744073709551616 := by omega
  clear hB hv2
  have HBz : Aside (Below w.heap.size w w2) := HBW.out.trans (HB2.out.mono HBW.out.size)
  have HAd : Aside (A = dmn u1 od ∧ B = dmx u2 od) := ⟨HAd0.out, HBd0.out⟩
  by_cases h1 : A ≤ B / 10 * 10
  · have h1' : (A : Int) ≤ (B : Int) / 10 * 10 := by omega
    go_wp2
    go_ret2
    exact HFIN.out _ HBz.out _ _ (B / 10) (-(p - 1)) (by omega) (by omega) (by rw [sfC, ← HAd.out.1, ← HAd.out.2, if_pos h1])
  · have h1' : ¬ (A : Int) ≤ (B : Int) / 10 * 10 := by omega
    by_cases h2 : A < B
    · have h2' : (A : Int) < (B : Int) := by omega
      go_wp2_with fail
      obtain ⟨k0, k1, k2⟩ := HCE.out _ HB2.out
      refine (uscale_any w.heap.size m H L sh _ hm2 hHl hLl hshl k0 k1 k2).mono ?_
      rintro e1 w3 ⟨rfl, hb3⟩
      have HB3 : Aside (Below w.heap.size w w3) := HBz.out.trans (hb3.mono HBz.out.size)
      clear hb3 k0 k1 k2
      have hu3 := us_lt (L := L) (s := sh) hm2 hHl
      generalize us m H L sh = u3 at *
      go_wp2_with fail
      refine (round_any u3 _ hu3).mono ?_
      rintro e1 w4 ⟨rfl, hw⟩
      obtain rfl := hw.symm
      clear hw
      generalize hR : (u3 + 1 + u3 / 4 % 2) % 18446744073709551616 / 4 = R
      have HR : Aside (rnd u3 = R) := hR
      clear hR
      go_wp2
      go_ret2
      exact HFIN.out _ HB3.out _ _ R (-p) rfl rfl (by rw [sfC, ← HAd.out.1, ← HAd.out.2, if_neg h1, if_pos h2, HR.out])
    · have h2' : ¬ (A : Int) < (B : Int) := by omega
      go_wp2
      go_ret2
      exact HFIN.out _ HBz.out _ _ A (-p) rfl rfl (by rw [sfC, ← HAd.out.1, ← HAd.out.2, if_neg h1, if_neg h2])
end Go.Proofs.Qxb6604548aDoor
