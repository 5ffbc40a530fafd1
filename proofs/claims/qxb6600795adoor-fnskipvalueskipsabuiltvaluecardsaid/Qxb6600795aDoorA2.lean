import Derived.Test.Qxb6600795aDoorA1
namespace Go.Proofs.Qxb6600795aDoor
open Go.RowKit

set_option maxHeartbeats 1000000 in
theorem appStr_0 (base g cap : Nat) (l : List UInt8) (v : Value) (c : Nat) (w : World) (hr : (c : Int) % 8 = 0) (hcap : l.length + 9 ≤ cap) (h : AO w base g cap l v w) :
    Calls Tryd.prog 13 #[v, .int .u8 c] w fun e w' => RetA w base g cap l Str e w' := by
  have H : Aside (AO w base g cap l v w) := h
  clear h
  go_enter Tryd.func13, Tryd.ntmps13
  go_wp2_with (first
    | (at_builtin; refine wpList_ao _ rfl (.tmp 5) (.tmp 6) rfl rfl (H.out.alloc _) (some ⟨w.heap.size, 0, none⟩) 1 1 [34] rfl rfl (fun h => by cases h) (cells_lit _ [34] _ rfl) (by simp; omega) ?_; intro v1 w1 h1; have H1 : Aside (AO w base g cap (l ++ [34]) v1 w1) := h1; clear h1)
    | (at_builtin; refine wpList_ao _ rfl (.tmp 12) (.tmp 13) rfl rfl (H1.out.alloc _) (some ⟨w1.heap.size, 0, none⟩) 2 2 [92, 34] rfl rfl (fun h => by cases h) (cells_lit _ [92, 34] _ rfl) (by simp; omega) ?_; intro v2 w2 h2; have H2 : Aside (AO w base g cap (l ++ [34] ++ [92, 34]) v2 w2) := h2; clear h2)
    | (at_builtin; refine wpList_ao _ rfl (.tmp 45) (.tmp 46) rfl rfl (H2.out.alloc _) (some ⟨w2.heap.size, 0, none⟩) 1 1 [34] rfl rfl (fun h => by cases h) (cells_lit _ [34] _ rfl) (by simp; omega) ?_; intro v3 w3 h3; have H3 : Aside (AO w base g cap (l ++ [34] ++ [92, 34] ++ [34]) v3 w3) := h3; clear h3))
  go_ret
  exact ⟨[34, 92, 34, 34], _, ⟨[92, 34, 34], rfl, (.esc 34 _ .q), by decide⟩, rfl, by simpa using H3.out⟩
set_option maxHeartbeats 1000000 in
theorem appStr_1 (base g cap : Nat) (l : List UInt8) (v : Value) (c : Nat) (w : World) (hr : (c : Int) % 8 = 1) (hcap : l.length + 9 ≤ cap) (h : AO w base g cap l v w) :
    Calls Tryd.prog 13 #[v, .int .u8 c] w fun e w' => RetA w base g cap l Str e w' := by
  have H : Aside (AO w base g cap l v w) := h
  clear h
  go_enter Tryd.func13, Tryd.ntmps13
  go_wp2_with (first
    | (at_builtin; refine wpList_ao _ rfl (.tmp 5) (.tmp 6) rfl rfl (H.out.alloc _) (some ⟨w.heap.size, 0, none⟩) 1 1 [34] rfl rfl (fun h => by cases h) (cells_lit _ [34] _ rfl) (by simp; omega) ?_; intro v1 w1 h1; have H1 : Aside (AO w base g cap (l ++ [34]) v1 w1) := h1; clear h1)
    | (at_builtin; refine wpList_ao _ rfl (.tmp 17) (.tmp 18) rfl rfl (H1.out.alloc _) (some ⟨w1.heap.size, 0, none⟩) 2 2 [92, 92] rfl rfl (fun h => by cases h) (cells_lit _ [92, 92] _ rfl) (by simp; omega) ?_; intro v2 w2 h2; have H2 : Aside (AO w base g cap (l ++ [34] ++ [92, 92]) v2 w2) := h2; clear h2)
    | (at_builtin; refine wpList_ao _ rfl (.tmp 45) (.tmp 46) rfl rfl (H2.out.alloc _) (some ⟨w2.heap.size, 0, none⟩) 1 1 [34] rfl rfl (fun h => by cases h) (cells_lit _ [34] _ rfl) (by simp; omega) ?_; intro v3 w3 h3; have H3 : Aside (AO w base g cap (l ++ [34] ++ [92, 92] ++ [34]) v3 w3) := h3; clear h3))
  go_ret
  exact ⟨[34, 92, 92, 34], _, ⟨[92, 92, 34], rfl, (.esc 92 _ .q), by decide⟩, rfl, by simpa using H3.out⟩
set_option maxHeartbeats 1000000 in
theorem appStr_2 (base g cap : Nat) (l : List UInt8) (v : Value) (c : Nat) (w : World) (hr : (c : Int) % 8 = 2) (hcap : l.length + 9 ≤ cap) (h : AO w base g cap l v w) :
    Calls Tryd.prog 13 #[v, .int .u8 c] w fun e w' => RetA w base g cap l Str e w' := by
  have H : Aside (AO w base g cap l v w) := h
  clear h
  go_enter Tryd.func13, Tryd.ntmps13
  go_wp2_with (first
    | (at_builtin; refine wpList_ao _ rfl (.tmp 5) (.tmp 6) rfl rfl (H.out.alloc _) (some ⟨w.heap.size, 0, none⟩) 1 1 [34] rfl rfl (fun h => by cases h) (cells_lit _ [34] _ rfl) (by simp; omega) ?_; intro v1 w1 h1; have H1 : Aside (AO w base g cap (l ++ [34]) v1 w1) := h1; clear h1)
    | (at_builtin; refine wpList_ao _ rfl (.tmp 22) (.tmp 23) rfl rfl (H1.out.alloc _) (some ⟨w1.heap.size, 0, none⟩) 1 1 [123] rfl rfl (fun h => by cases h) (cells_lit _ [123] _ rfl) (by simp; omega) ?_; intro v2 w2 h2; have H2 : Aside (AO w base g cap (l ++ [34] ++ [123]) v2 w2) := h2; clear h2)
    | (at_builtin; refine wpList_ao _ rfl (.tmp 45) (.tmp 46) rfl rfl (H2.out.alloc _) (some ⟨w2.heap.size, 0, none⟩) 1 1 [34] rfl rfl (fun h => by cases h) (cells_lit _ [34] _ rfl) (by simp; omega) ?_; intro v3 w3 h3; have H3 : Aside (AO w base g cap (l ++ [34] ++ [123] ++ [34]) v3 w3) := h3; clear h3))
  go_ret
  exact ⟨[34, 123, 34], _, ⟨[123, 34], rfl, (.oth 123 _ (by decide) (by decide) .q), by decide⟩, rfl, by simpa using H3.out⟩
set_option maxHeartbeats 1000000 in
theorem appStr_3 (base g cap : Nat) (l : List UInt8) (v : Value) (c : Nat) (w : World) (hr : (c : Int) % 8 = 3) (hcap : l.length + 9 ≤ cap) (h : AO w base g cap l v w) :
    Calls Tryd.prog 13 #[v, .int .u8 c] w fun e w' => RetA w base g cap l Str e w' := by
  have H : Aside (AO w base g cap l v w) := h
  clear h
  go_enter Tryd.func13, Tryd.ntmps13
  go_wp2_with (first
    | (at_builtin; refine wpList_ao _ rfl (.tmp 5) (.tmp 6) rfl rfl (H.out.alloc _) (some ⟨w.heap.size, 0, none⟩) 1 1 [34] rfl rfl (fun h => by cases h) (cells_lit _ [34] _ rfl) (by simp; omega) ?_; intro v1 w1 h1; have H1 : Aside (AO w base g cap (l ++ [34]) v1 w1) := h1; clear h1)
    | (at_builtin; refine wpList_ao _ rfl (.tmp 27) (.tmp 28) rfl rfl (H1.out.alloc _) (some ⟨w1.heap.size, 0, none⟩) 1 1 [93] rfl rfl (fun h => by cases h) (cells_lit _ [93] _ rfl) (by simp; omega) ?_; intro v2 w2 h2; have H2 : Aside (AO w base g cap (l ++ [34] ++ [93]) v2 w2) := h2; clear h2)
    | (at_builtin; refine wpList_ao _ rfl (.tmp 45) (.tmp 46) rfl rfl (H2.out.alloc _) (some ⟨w2.heap.size, 0, none⟩) 1 1 [34] rfl rfl (fun h => by cases h) (cells_lit _ [34] _ rfl) (by simp; omega) ?_; intro v3 w3 h3; have H3 : Aside (AO w base g cap (l ++ [34] ++ [93] ++ [34]) v3 w3) := h3; clear h3))
  go_ret
  exact ⟨[34, 93, 34], _, ⟨[93, 34], rfl, (.oth 93 _ (by decide) (by decide) .q), by decide⟩, rfl, by simpa using H3.out⟩
set_option maxHeartbeats 1000000 in
theorem appStr_4 (base g cap : Nat) (l : List UInt8) (v : Value) (c : Nat) (w : World) (hr : (c : Int) % 8 = 4) (hcap : l.length + 9 ≤ cap) (h : AO w base g cap l v w) :
    Calls Tryd.prog 13 #[v, .int .u8 c] w fun e w' => RetA w base g cap l Str e w' := by
  have H : Aside (AO w base g cap l v w) := h
  clear h
  go_enter Tryd.func13, Tryd.ntmps13
  go_wp2_with (first
    | (at_builtin; refine wpList_ao _ rfl (.tmp 5) (.tmp 6) rfl rfl (H.out.alloc _) (some ⟨w.heap.size, 0, none⟩) 1 1 [34] rfl rfl (fun h => by cases h) (cells_lit _ [34] _ rfl) (by simp; omega) ?_; intro v1 w1 h1; have H1 : Aside (AO w base g cap (l ++ [34]) v1 w1) := h1; clear h1)
    | (at_builtin; refine wpList_ao _ rfl (.tmp 32) (.tmp 33) rfl rfl (H1.out.alloc _) (some ⟨w1.heap.size, 0, none⟩) 2 2 [125, 44] rfl rfl (fun h => by cases h) (cells_lit _ [125, 44] _ rfl) (by simp; omega) ?_; intro v2 w2 h2; have H2 : Aside (AO w base g cap (l ++ [34] ++ [125, 44]) v2 w2) := h2; clear h2)
    | (at_builtin; refine wpList_ao _ rfl (.tmp 45) (.tmp 46) rfl rfl (H2.out.alloc _) (some ⟨w2.heap.size, 0, none⟩) 1 1 [34] rfl rfl (fun h => by cases h) (cells_lit _ [34] _ rfl) (by simp; omega) ?_; intro v3 w3 h3; have H3 : Aside (AO w base g cap (l ++ [34] ++ [125, 44] ++ [34]) v3 w3) := h3; clear h3))
  go_ret
  exact ⟨[34, 125, 44, 34], _, ⟨[125, 44, 34], rfl, (.oth 125 _ (by decide) (by decide) (.oth 44 _ (by decide) (by decide) .q)), by decide⟩, rfl, by simpa using H3.out⟩
set_option maxHeartbeats 1000000 in
theorem appStr_5 (base g cap : Nat) (l : List UInt8) (v : Value) (c : Nat) (w : World) (hr : (c : Int) % 8 = 5) (hcap : l.length + 9 ≤ cap) (h : AO w base g cap l v w) :
    Calls Tryd.prog 13 #[v, .int .u8 c] w fun e w' => RetA w base g cap l Str e w' := by
  have H : Aside (AO w base g cap l v w) := h
  clear h
  go_enter Tryd.func13, Tryd.ntmps13
  go_wp2_with (first
    | (at_builtin; refine wpList_ao _ rfl (.tmp 5) (.tmp 6) rfl rfl (H.out.alloc _) (some ⟨w.heap.size, 0, none⟩) 1 1 [34] rfl rfl (fun h => by cases h) (cells_lit _ [34] _ rfl) (by simp; omega) ?_; intro v1 w1 h1; have H1 : Aside (AO w base g cap (l ++ [34]) v1 w1) := h1; clear h1)
    | (at_builtin; refine wpList_ao _ rfl (.tmp 37) (.tmp 38) rfl rfl (H1.out.alloc _) (some ⟨w1.heap.size, 0, none⟩) 2 2 [91, 32] rfl rfl (fun h => by cases h) (cells_lit _ [91, 32] _ rfl) (by simp; omega) ?_; intro v2 w2 h2; have H2 : Aside (AO w base g cap (l ++ [34] ++ [91, 32]) v2 w2) := h2; clear h2)
    | (at_builtin; refine wpList_ao _ rfl (.tmp 45) (.tmp 46) rfl rfl (H2.out.alloc _) (some ⟨w2.heap.size, 0, none⟩) 1 1 [34] rfl rfl (fun h => by cases h) (cells_lit _ [34] _ rfl) (by simp; omega) ?_; intro v3 w3 h3; have H3 : Aside (AO w base g cap (l ++ [34] ++ [91, 32] ++ [34]) v3 w3) := h3; clear h3))
  go_ret
  exact ⟨[34, 91, 32, 34], _, ⟨[91, 32, 34], rfl, (.oth 91 _ (by decide) (by decide) (.oth 32 _ (by decide) (by decide) .q)), by decide⟩, rfl, by simpa using H3.out⟩
set_option maxHeartbeats 1000000 in
theorem appStr_6 (base g cap : Nat) (l : List UInt8) (v : Value) (c : Nat) (w : World) (hr : (c : Int) % 8 = 6) (hcap : l.length + 9 ≤ cap) (h : AO w base g cap l v w) :
    Calls Tryd.prog 13 #[v, .int .u8 c] w fun e w' => RetA w base g cap l Str e w' := by
  have H : Aside (AO w base g cap l v w) := h
  clear h
  go_enter Tryd.func13, Tryd.ntmps13
  go_wp2_with (first
    | (at_builtin; refine wpList_ao _ rfl (.tmp 5) (.tmp 6) rfl rfl (H.out.alloc _) (some ⟨w.heap.size, 0, none⟩) 1 1 [34] rfl rfl (fun h => by cases h) (cells_lit _ [34] _ rfl) (by simp; omega) ?_; intro v1 w1 h1; have H1 : Aside (AO w base g cap (l ++ [34]) v1 w1) := h1; clear h1)
    | (at_builtin; refine wpList_ao _ rfl (.tmp 42) (.tmp 43) rfl rfl (H1.out.alloc _) (some ⟨w1.heap.size, 0, none⟩) 7 7 [97, 92, 110, 92, 92, 92, 34] rfl rfl (fun h => by cases h) (cells_lit _ [97, 92, 110, 92, 92, 92, 34] _ rfl) (by simp; omega) ?_; intro v2 w2 h2; have H2 : Aside (AO w base g cap (l ++ [34] ++ [97, 92, 110, 92, 92, 92, 34]) v2 w2) := h2; clear h2)
    | (at_builtin; refine wpList_ao _ rfl (.tmp 45) (.tmp 46) rfl rfl (H2.out.alloc _) (some ⟨w2.heap.size, 0, none⟩) 1 1 [34] rfl rfl (fun h => by cases h) (cells_lit _ [34] _ rfl) (by simp; omega) ?_; intro v3 w3 h3; have H3 : Aside (AO w base g cap (l ++ [34] ++ [97, 92, 110, 92, 92, 92, 34] ++ [34]) v3 w3) := h3; clear h3))
  go_ret
  exact ⟨[34, 97, 92, 110, 92, 92, 92, 34, 34], _, ⟨[97, 92, 110, 92, 92, 92, 34, 34], rfl, (.oth 97 _ (by decide) (by decide) (.esc 110 _ (.esc 92 _ (.esc 34 _ .q)))), by decide⟩, rfl, by simpa using H3.out⟩
set_option maxHeartbeats 1000000 in
theorem appStr_7 (base g cap : Nat) (l : List UInt8) (v : Value) (c : Nat) (w : World) (hr : (c : Int) % 8 = 7) (hcap : l.length + 9 ≤ cap) (h : AO w base g cap l v w) :
    Calls Tryd.prog 13 #[v, .int .u8 c] w fun e w' => RetA w base g cap l Str e w' := by
  have H : Aside (AO w base g cap l v w) := h
  clear h
  go_enter Tryd.func13, Tryd.ntmps13
  go_wp2_with (first
    | (at_builtin; refine wpList_ao _ rfl (.tmp 5) (.tmp 6) rfl rfl (H.out.alloc _) (some ⟨w.heap.size, 0, none⟩) 1 1 [34] rfl rfl (fun h => by cases h) (cells_lit _ [34] _ rfl) (by simp; omega) ?_; intro v1 w1 h1; have H1 : Aside (AO w base g cap (l ++ [34]) v1 w1) := h1; clear h1)
    | (at_builtin; refine wpList_ao _ rfl (.tmp 45) (.tmp 46) rfl rfl (H1.out.alloc _) (some ⟨w1.heap.size, 0, none⟩) 1 1 [34] rfl rfl (fun h => by cases h) (cells_lit _ [34] _ rfl) (by simp; omega) ?_; intro v3 w3 h3; have H3 : Aside (AO w base g cap (l ++ [34] ++ [34]) v3 w3) := h3; clear h3))
  go_ret
  exact ⟨[34, 34], _, ⟨[34], rfl, .q, by decide⟩, rfl, by simpa using H3.out⟩
theorem appStr_any (base g cap : Nat) (l : List UInt8) (v : Value) (c : Nat) (w : World) (hcap : l.length + 9 ≤ cap) (h : AO w base g cap l v w) :
    Calls Tryd.prog 13 #[v, .int .u8 c] w fun e w' => RetA w base g cap l Str e w' := by
  have hk : (c : Int) % 8 = 0 ∨ (c : Int) % 8 = 1 ∨ (c : Int) % 8 = 2 ∨ (c : Int) % 8 = 3 ∨ (c : Int) % 8 = 4 ∨ (c : Int) % 8 = 5 ∨ (c : Int) % 8 = 6 ∨ (c : Int) % 8 = 7 := by omega
  rcases hk with hr | hr | hr | hr | hr | hr | hr | hr
  · exact appStr_0 base g cap l v c w hr hcap h
  · exact appStr_1 base g cap l v c w hr hcap h
  · exact appStr_2 base g cap l v c w hr hcap h
  · exact appStr_3 base g cap l v c w hr hcap h
  · exact appStr_4 base g cap l v c w hr hcap h
  · exact appStr_5 base g cap l v c w hr hcap h
  · exact appStr_6 base g cap l v c w hr hcap h
  · exact appStr_7 base g cap l v c w hr hcap h

set_option maxHeartbeats 1000000 in
theorem appSc_0 (base g cap : Nat) (l : List UInt8) (v : Value) (c : Nat) (w : World) (hr : (c : Int) % 5 = 0) (hcap : l.length + 8 ≤ cap) (h : AO w base g cap l v w) :
    Calls Tryd.prog 14 #[v, .int .u8 c] w fun e w' => RetA w base g cap l Sc e w' := by
  have H : Aside (AO w base g cap l v w) := h
  clear h
  go_enter Tryd.func14, Tryd.ntmps14
  go_wp2_with (at_builtin; refine wpList_ao _ rfl (.tmp 9) (.tmp 10) rfl rfl (H.out.alloc _) (some ⟨w.heap.size, 0, none⟩) 4 4 [116, 114, 117, 101] rfl rfl (fun h => by cases h) (cells_lit _ [116, 114, 117, 101] _ rfl) (by simp; omega) ?_; intro v1 w1 h1; have H1 : Aside (AO w base g cap (l ++ [116, 114, 117, 101]) v1 w1) := h1; clear h1)
  go_ret
  exact ⟨[116, 114, 117, 101], _, by simp [Sc, scals], rfl, H1.out⟩

set_option maxHeartbeats 1000000 in
theorem appSc_1 (base g cap : Nat) (l : List UInt8) (v : Value) (c : Nat) (w : World) (hr : (c : Int) % 5 = 1) (hcap : l.length + 8 ≤ cap) (h : AO w base g cap l v w) :
    Calls Tryd.prog 14 #[v, .int .u8 c] w fun e w' => RetA w base g cap l Sc e w' := by
  have H : Aside (AO w base g cap l v w) := h
  clear h
  go_enter Tryd.func14, Tryd.ntmps14
  go_wp2_with (at_builtin; refine wpList_ao _ rfl (.tmp 14) (.tmp 15) rfl rfl (H.out.alloc _) (some ⟨w.heap.size, 0, none⟩) 5 5 [102, 97, 108, 115, 101] rfl rfl (fun h => by cases h) (cells_lit _ [102, 97, 108, 115, 101] _ rfl) (by simp; omega) ?_; intro v1 w1 h1; have H1 : Aside (AO w base g cap (l ++ [102, 97, 108, 115, 101]) v1 w1) := h1; clear h1)
  go_ret
  exact ⟨[102, 97, 108, 115, 101], _, by simp [Sc, scals], rfl, H1.out⟩

set_option maxHeartbeats 1000000 in
theorem appSc_2 (base g cap : Nat) (l : List UInt8) (v : Value) (c : Nat) (w : World) (hr : (c : Int) % 5 = 2) (hcap : l.length + 8 ≤ cap) (h : AO w base g cap l v w) :
    Calls Tryd.prog 14 #[v, .int .u8 c] w fun e w' => RetA w base g cap l Sc e w' := by
  have H : Aside (AO w base g cap l v w) := h
  clear h
  go_enter Tryd.func14, Tryd.ntmps14
  go_wp2_with (at_builtin; refine wpList_ao _ rfl (.tmp 19) (.tmp 20) rfl rfl (H.out.alloc _) (some ⟨w.heap.size, 0, none⟩) 4 4 [110, 117, 108, 108] rfl rfl (fun h => by cases h) (cells_lit _ [110, 117, 108, 108] _ rfl) (by simp; omega) ?_; intro v1 w1 h1; have H1 : Aside (AO w base g cap (l ++ [110, 117, 108, 108]) v1 w1) := h1; clear h1)
  go_ret
  exact ⟨[110, 117, 108, 108], _, by simp [Sc, scals], rfl, H1.out⟩

set_option maxHeartbeats 1000000 in
theorem appSc_3 (base g cap : Nat) (l : List UInt8) (v : Value) (c : Nat) (w : World) (hr : (c : Int) % 5 = 3) (hcap : l.length + 8 ≤ cap) (h : AO w base g cap l v w) :
    Calls Tryd.prog 14 #[v, .int .u8 c] w fun e w' => RetA w base g cap l Sc e w' := by
  have H : Aside (AO w base g cap l v w) := h
  clear h
  go_enter Tryd.func14, Tryd.ntmps14
  go_wp2_with (at_builtin; refine wpList_ao _ rfl (.tmp 24) (.tmp 25) rfl rfl (H.out.alloc _) (some ⟨w.heap.size, 0, none⟩) 8 8 [45, 49, 50, 46, 53, 101, 43, 51] rfl rfl (fun h => by cases h) (cells_lit _ [45, 49, 50, 46, 53, 101, 43, 51] _ rfl) (by simp; omega) ?_; intro v1 w1 h1; have H1 : Aside (AO w base g cap (l ++ [45, 49, 50, 46, 53, 101, 43, 51]) v1 w1) := h1; clear h1)
  go_ret
  exact ⟨[45, 49, 50, 46, 53, 101, 43, 51], _, by simp [Sc, scals], rfl, H1.out⟩

set_option maxHeartbeats 1000000 in
theorem appSc_4 (base g cap : Nat) (l : List UInt8) (v : Value) (c : Nat) (w : World) (hr : (c : Int) % 5 = 4) (hcap : l.length + 8 ≤ cap) (h : AO w base g cap l v w) :
    Calls Tryd.prog 14 #[v, .int .u8 c] w fun e w' => RetA w base g cap l Sc e w' := by
  have H : Aside (AO w base g cap l v w) := h
  clear h
  go_enter Tryd.func14, Tryd.ntmps14
  go_wp2_with (at_builtin; refine wpList_ao _ rfl (.tmp 27) (.tmp 28) rfl rfl (H.out.alloc _) (some ⟨w.heap.size, 0, none⟩) 1 1 [48] rfl rfl (fun h => by cases h) (cells_lit _ [48] _ rfl) (by simp; omega) ?_; intro v1 w1 h1; have H1 : Aside (AO w base g cap (l ++ [48]) v1 w1) := h1; clear h1)
  go_ret
  exact ⟨[48], _, by simp [Sc, scals], rfl, H1.out⟩
theorem appSc_any (base g cap : Nat) (l : List UInt8) (v : Value) (c : Nat) (w : World) (hcap : l.length + 8 ≤ cap) (h : AO w base g cap l v w) :
    Calls Tryd.prog 14 #[v, .int .u8 c] w fun e w' => RetA w base g cap l Sc e w' := by
  have hk : (c : Int) % 5 = 0 ∨ (c : Int) % 5 = 1 ∨ (c : Int) % 5 = 2 ∨ (c : Int) % 5 = 3 ∨ (c : Int) % 5 = 4 := by omega
  rcases hk with hr | hr | hr | hr | hr
  · exact appSc_0 base g cap l v c w hr hcap h
  · exact appSc_1 base g cap l v c w hr hcap h
  · exact appSc_2 base g cap l v c w hr hcap h
  · exact appSc_3 base g cap l v c w hr hcap h
  · exact appSc_4 base g cap l v c w hr hcap h
end Go.Proofs.Qxb6600795aDoor
