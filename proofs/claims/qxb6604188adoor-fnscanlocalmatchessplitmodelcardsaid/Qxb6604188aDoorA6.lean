import Derived.Test.Qxb6604188aDoorA5
import Derived.Deep.RegionWith
namespace Go.Proofs.Qxb6604188aDoor
open Go.RowKit

set_option maxHeartbeats 400000 in
theorem peek_in (b p : Nat) (s : ByteArray) (w : World) (hs : s.size ≤ 1048576) (hp : p < s.size) (h0 : w.cell? ⟨b, 0, none⟩ = some (.string s)) (h1 : w.cell? ⟨b, 1, none⟩ = some (.int .i64 p)) :
    Calls Tryd.prog 32 #[.pointer (some ⟨b, 0, none⟩), .int .i64 0] w fun e w' => e = .returned (.int .u8 s[p].toNat) ∧ ∃ m, w' = w.drewN m := by
  go_enter Tryd.func32, Tryd.ntmps32
  go_wp2
  go_quiet (fail)
  go_wp2
  go_quiet (fail)
  go_wp2
  go_ret
  exact ⟨rfl, _, World.drewN_drewN _ _ _⟩

set_option maxHeartbeats 400000 in
theorem peek_out (b : Nat) (p : Int) (s : ByteArray) (w : World) (hs : s.size ≤ 1048576) (hp : (s.size : Int) ≤ p) (hp2 : p ≤ 9223372036854775807) (h0 : w.cell? ⟨b, 0, none⟩ = some (.string s)) (h1 : w.cell? ⟨b, 1, none⟩ = some (.int .i64 p)) :
    Calls Tryd.prog 32 #[.pointer (some ⟨b, 0, none⟩), .int .i64 0] w fun e w' => e = .returned (.int .u8 0) ∧ ∃ m, w' = w.drewN m := by
  go_enter Tryd.func32, Tryd.ntmps32
  go_wp2
  go_quiet (fail)
  go_wp2
  go_ret
  exact ⟨rfl, _, rfl⟩

set_option maxHeartbeats 400000 in
theorem skip_yes (b p : Nat) (c : Int) (s : ByteArray) (w : World) (hs : s.size ≤ 1048576) (hp : p < s.size) (h0 : w.cell? ⟨b, 0, none⟩ = some (.string s)) (h1 : w.cell? ⟨b, 1, none⟩ = some (.int .i64 p)) (hf : w.frozen? ⟨b, 1, none⟩ = false)
    (hc : ((s[p].toNat : Int) == c) = true) :
    Calls Tryd.prog 27 #[.pointer (some ⟨b, 0, none⟩), .int .u8 c] w fun e w' => e = .returned (.bool true) ∧ ∃ m, w' = (w.setCell ⟨b, 1, none⟩ (.int .i64 (p + 1))).drewN m := by
  go_enter Tryd.func27, Tryd.ntmps27
  go_wp2_with (go_at_call 32; refine (peek_in _ _ _ _ hs hp h0 h1).mono ?_; rintro e w' ⟨rfl, m, rfl⟩)
  go_ret
  exact ⟨rfl, m, rfl⟩

set_option maxHeartbeats 400000 in
theorem skip_no (b p : Nat) (c : Int) (s : ByteArray) (w : World) (hs : s.size ≤ 1048576) (hp : p < s.size) (h0 : w.cell? ⟨b, 0, none⟩ = some (.string s)) (h1 : w.cell? ⟨b, 1, none⟩ = some (.int .i64 p))
    (hc : ((s[p].toNat : Int) == c) = false) :
    Calls Tryd.prog 27 #[.pointer (some ⟨b, 0, none⟩), .int .u8 c] w fun e w' => e = .returned (.bool false) ∧ ∃ m, w' = w.drewN m := by
  go_enter Tryd.func27, Tryd.ntmps27
  go_wp2_with (go_at_call 32; refine (peek_in _ _ _ _ hs hp h0 h1).mono ?_; rintro e w' ⟨rfl, m, rfl⟩)
  go_ret
  exact ⟨rfl, m, rfl⟩

set_option maxHeartbeats 400000 in
theorem skip_end (b : Nat) (p c : Int) (s : ByteArray) (w : World) (hs : s.size ≤ 1048576) (hp : (s.size : Int) ≤ p) (hp2 : p ≤ 9223372036854775807) (h0 : w.cell? ⟨b, 0, none⟩ = some (.string s)) (h1 : w.cell? ⟨b, 1, none⟩ = some (.int .i64 p))
    (hc : ((0 : Int) == c) = false) :
    Calls Tryd.prog 27 #[.pointer (some ⟨b, 0, none⟩), .int .u8 c] w fun e w' => e = .returned (.bool false) ∧ ∃ m, w' = w.drewN m := by
  go_enter Tryd.func27, Tryd.ntmps27
  go_wp2_with (go_at_call 32; refine (peek_out _ _ _ _ hs hp hp2 h0 h1).mono ?_; rintro e w' ⟨rfl, m, rfl⟩)
  go_ret
  exact ⟨rfl, m, rfl⟩

/-- The text goes on with a separator: it is read. -/
def SepYes (b p : Nat) (w : World) (e : Ending) (w' : World) : Prop := e = .returned (.bool true) ∧ ∃ m, w' = (w.setCell ⟨b, 1, none⟩ (.int .i64 (p + 1))).drewN m
/-- It does not: nothing is read. -/
def SepNo (w : World) (e : Ending) (w' : World) : Prop := e = .returned (.bool false) ∧ ∃ m, w' = w.drewN m
theorem sepYes_mk {b p : Nat} {w : World} {e : Ending} {n m : Nat} (h : e = .returned (.bool true)) : SepYes b p w e (((w.drewN n).setCell ⟨b, 1, none⟩ (.int .i64 (p + 1))).drewN m) := ⟨h, n + m, by rw [← World.drewN_drewN]; rfl⟩

set_option maxHeartbeats 400000 in
theorem separator_yes (b p : Nat) (s : ByteArray) (w : World) (hs : s.size ≤ 1048576) (hp : p < s.size) (h0 : w.cell? ⟨b, 0, none⟩ = some (.string s)) (h1 : w.cell? ⟨b, 1, none⟩ = some (.int .i64 p)) (hf : w.frozen? ⟨b, 1, none⟩ = false)
    (hc : isSepZ s[p].toNat = true) :
    Calls Tryd.prog 25 #[.pointer (some ⟨b, 0, none⟩)] w fun e w' => SepYes b p w e w' := by
  have hcase : (s[p].toNat : Int) = 45 ∨ (s[p].toNat : Int) = 95 ∨ (s[p].toNat : Int) = 46 := by simpa [isSepZ] using hc
  clear hc
  rcases hcase with h | h | h
  · have e1 : ((s[p].toNat : Int) == 45) = true := by rw [h]; rfl
    have H : Hid ((s[p].toNat : Int) = 45) := h
    clear h
    go_enter Tryd.func25, Tryd.ntmps25
    go_wp2_with (go_at_call_of 27 (Value.int IntKind.u8 45); refine (skip_yes _ _ _ _ _ hs hp h0 h1 hf e1).mono ?_; rintro e w' ⟨rfl, m, rfl⟩)
    go_ret
    exact ⟨rfl, m, rfl⟩
  · have e1 : ((s[p].toNat : Int) == 45) = false := by rw [h]; rfl
    have e2 : ((s[p].toNat : Int) == 95) = true := by rw [h]; rfl
    have H : Hid ((s[p].toNat : Int) = 95) := h
    clear h
    go_enter Tryd.func25, Tryd.ntmps25
    go_wp2_with (first
      | (go_at_call_of 27 (Value.int IntKind.u8 45); refine (skip_no _ _ _ _ _ hs hp h0 h1 e1).mono ?_; rintro e w' ⟨rfl, m, rfl⟩)
      | (go_at_call_of 27 (Value.int IntKind.u8 95); refine (skip_yes _ _ _ _ _ hs hp (by exact h0) (by exact h1) (by exact hf) e2).mono ?_; rintro e w' ⟨rfl, m2, rfl⟩))
    go_ret
    exact sepYes_mk rfl
  · have e1 : ((s[p].toNat : Int) == 45) = false := by rw [h]; rfl
    have e2 : ((s[p].toNat : Int) == 95) = false := by rw [h]; rfl
    have e3 : ((s[p].toNat : Int) == 46) = true := by rw [h]; rfl
    have H : Hid ((s[p].toNat : Int) = 46) := h
    clear h
    go_enter Tryd.func25, Tryd.ntmps25
    go_wp2_with (first
      | (go_at_call_of 27 (Value.int IntKind.u8 45); refine (skip_no _ _ _ _ _ hs hp h0 h1 e1).mono ?_; rintro e w' ⟨rfl, m, rfl⟩)
      | (go_at_call_of 27 (Value.int IntKind.u8 95); refine (skip_no _ _ _ _ _ hs hp (by exact h0) (by exact h1) e2).mono ?_; rintro e w' ⟨rfl, m2, rfl⟩)
      | (go_at_call_of 27 (Value.int IntKind.u8 46); refine (skip_yes _ _ _ _ _ hs hp (by exact h0) (by exact h1) (by exact hf) e3).mono ?_; rintro e w' ⟨rfl, m3, rfl⟩))
    go_ret
    exact sepYes_mk rfl

set_option maxHeartbeats 400000 in
theorem separator_no (b p : Nat) (s : ByteArray) (w : World) (hs : s.size ≤ 1048576) (hp : p < s.size) (h0 : w.cell? ⟨b, 0, none⟩ = some (.string s)) (h1 : w.cell? ⟨b, 1, none⟩ = some (.int .i64 p))
    (hc : isSepZ s[p].toNat = false) :
    Calls Tryd.prog 25 #[.pointer (some ⟨b, 0, none⟩)] w fun e w' => SepNo w e w' := by
  have hcase : ¬ (s[p].toNat : Int) = 45 ∧ ¬ (s[p].toNat : Int) = 95 ∧ ¬ (s[p].toNat : Int) = 46 := by simpa [isSepZ] using hc
  clear hc
  obtain ⟨x1, x2, x3⟩ := hcase
  have e1 : ((s[p].toNat : Int) == 45) = false := by simpa using x1
  have e2 : ((s[p].toNat : Int) == 95) = false := by simpa using x2
  have e3 : ((s[p].toNat : Int) == 46) = false := by simpa using x3
  clear x1 x2 x3
  go_enter Tryd.func25, Tryd.ntmps25
  go_wp2_with (first
    | (go_at_call_of 27 (Value.int IntKind.u8 45); refine (skip_no _ _ _ _ _ hs hp h0 h1 e1).mono ?_; rintro e w' ⟨rfl, m, rfl⟩)
    | (go_at_call_of 27 (Value.int IntKind.u8 95); refine (skip_no _ _ _ _ _ hs hp (by exact h0) (by exact h1) e2).mono ?_; rintro e w' ⟨rfl, m2, rfl⟩)
    | (go_at_call_of 27 (Value.int IntKind.u8 46); refine (skip_no _ _ _ _ _ hs hp (by exact h0) (by exact h1) e3).mono ?_; rintro e w' ⟨rfl, m3, rfl⟩))
  go_ret
  exact ⟨rfl, _, rfl⟩

set_option maxHeartbeats 400000 in
theorem separator_end (b : Nat) (p : Int) (s : ByteArray) (w : World) (hs : s.size ≤ 1048576) (hp : (s.size : Int) ≤ p) (hp2 : p ≤ 9223372036854775807) (h0 : w.cell? ⟨b, 0, none⟩ = some (.string s)) (h1 : w.cell? ⟨b, 1, none⟩ = some (.int .i64 p)) :
    Calls Tryd.prog 25 #[.pointer (some ⟨b, 0, none⟩)] w fun e w' => SepNo w e w' := by
  go_enter Tryd.func25, Tryd.ntmps25
  go_wp2_with (first
    | (go_at_call_of 27 (Value.int IntKind.u8 45); refine (skip_end _ _ _ _ _ hs hp hp2 h0 h1 rfl).mono ?_; rintro e w' ⟨rfl, m, rfl⟩)
    | (go_at_call_of 27 (Value.int IntKind.u8 95); refine (skip_end _ _ _ _ _ hs hp hp2 (by exact h0) (by exact h1) rfl).mono ?_; rintro e w' ⟨rfl, m2, rfl⟩)
    | (go_at_call_of 27 (Value.int IntKind.u8 46); refine (skip_end _ _ _ _ _ hs hp hp2 (by exact h0) (by exact h1) rfl).mono ?_; rintro e w' ⟨rfl, m3, rfl⟩))
  go_ret
  exact ⟨rfl, _, rfl⟩
end Go.Proofs.Qxb6604188aDoor
