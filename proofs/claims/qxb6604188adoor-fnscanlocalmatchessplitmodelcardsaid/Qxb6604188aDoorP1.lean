import Derived.Test.Qxb6604188aDoorA8
namespace Go.Proofs.Qxb6604188aDoor

theorem lab_notSep {c : Int} (h : isLabZ c = true) : isSepZ c = false := by
  simp [isLabZ] at h; simp [isSepZ]; omega
theorem labAt_notSep {s : ByteArray} {k : Nat} (h : labAt s k = true) : sepAt s k = false := by
  by_cases hk : k < s.size
  · rw [labAt_in hk] at h; rw [sepAt_in hk]; exact lab_notSep h
  · exact sepAt_out hk

/-- How many separators stand in [p, q). -/
def cntR (s : ByteArray) (p q : Nat) : Nat := cntSep ((s.data.toList.drop p).take (q - p))
theorem cntR_self (s : ByteArray) (p : Nat) : cntR s p p = 0 := by simp [cntR, cntSep]
theorem cntR_step (s : ByteArray) (p q : Nat) (h : p < q) (hs : p < s.size) : cntR s p q = (if sepAt s p then 1 else 0) + cntR s (p + 1) q := by
  have e : q - p = (q - (p + 1)) + 1 := by omega
  rw [cntR, drop_at s p hs, e, List.take_succ_cons, cntSep, List.countP_cons, cntR, cntSep, sepAt_in hs, Nat.add_comm]
  rfl
theorem cntR_labs (s : ByteArray) (q : Nat) : ∀ (d p e : Nat), e - p = d → p ≤ e → e ≤ q → e ≤ s.size → (∀ k, p ≤ k → k < e → labAt s k = true) → cntR s p q = cntR s e q
  | 0, p, e, hd, h1, _, _, _ => by rw [show p = e by omega]
  | d + 1, p, e, hd, h1, h2, h3, h4 => by
    rw [cntR_step s p q (by omega) (by omega), if_neg (by rw [labAt_notSep (h4 p (Nat.le_refl _) (by omega))]; simp), Nat.zero_add]
    exact cntR_labs s q d (p + 1) e (by omega) (by omega) h2 h3 (fun k a b => h4 k (by omega) b)

theorem scan_le {s : ByteArray} : ∀ {gs : List ByteArray} {p : Nat} {ok : Bool} {q : Nat}, Scan s gs p ok q → p ≤ q
  | [], p, ok, q, h => by rw [h.2.1]; exact Nat.le_refl _
  | g :: gs, p, ok, q, ⟨e, h1, h2, h3, h4, h5, h6⟩ => by
    rcases h6 with ⟨_, _, rfl, _⟩ | ⟨_, h⟩
    · omega
    · have := scan_le h; omega
theorem scan_in {s : ByteArray} : ∀ {gs : List ByteArray} {p : Nat} {ok : Bool} {q : Nat}, Scan s gs p ok q → p ≤ s.size → q ≤ s.size
  | [], p, ok, q, h, hp => by rw [h.2.1]; exact hp
  | g :: gs, p, ok, q, ⟨e, h1, h2, h3, h4, h5, h6⟩, hp => by
    rcases h6 with ⟨_, _, rfl, _⟩ | ⟨hs, h⟩
    · exact h2
    · have : e < s.size := by
        by_cases h : e < s.size
        · exact h
        · rw [sepAt_out h] at hs; cases hs
      exact scan_in h this
theorem scan_out {s : ByteArray} {gs : List ByteArray} {p : Nat} {ok : Bool} {q : Nat} (h : Scan s gs p ok q) (hp : s.size < p) : gs = [] ∧ ok = false ∧ q = p := by
  match gs, h with
  | [], h => exact ⟨rfl, h.1, h.2.1⟩
  | g :: gs, ⟨e, h1, h2, _⟩ => exact absurd h2 (by omega)
theorem scan_ok {s : ByteArray} : ∀ {gs : List ByteArray} {p : Nat} {q : Nat}, Scan s gs p true q → p < q ∧ labAt s q = false ∧ sepAt s q = false ∧ gs.length = cntR s p q + 1
  | [], p, q, h => by cases h.1
  | g :: gs, p, q, ⟨e, h1, h2, h3, h4, h5, h6⟩ => by
    rcases h6 with ⟨rfl, _, rfl, hs⟩ | ⟨hs, h⟩
    · exact ⟨h1, h4, hs, by rw [cntR_labs s q (q - p) p q rfl (by omega) (Nat.le_refl _) h2 h3, cntR_self]; rfl⟩
    · obtain ⟨a, b, c, d⟩ := scan_ok h
      have he : e < s.size := by
        by_cases h : e < s.size
        · exact h
        · rw [sepAt_out h] at hs; cases hs
      refine ⟨by omega, b, c, ?_⟩
      rw [cntR_labs s q (e - p) p e rfl (by omega) (by omega) h2 h3, cntR_step s e q (by omega) he, hs, List.length_cons, d]
      simp; omega
theorem scan_no {s : ByteArray} : ∀ {gs : List ByteArray} {p : Nat} {q : Nat}, Scan s gs p false q → labAt s q = false ∧ gs.length = cntR s p q
  | [], p, q, h => ⟨by rw [h.2.1]; exact h.2.2, by rw [h.2.1, cntR_self]; rfl⟩
  | g :: gs, p, q, ⟨e, h1, h2, h3, h4, h5, h6⟩ => by
    rcases h6 with ⟨rfl, hx, rfl, hs⟩ | ⟨hs, h⟩
    · cases hx
    · obtain ⟨b, d⟩ := scan_no h
      have hle := scan_le h
      have he : e < s.size := by
        by_cases h : e < s.size
        · exact h
        · rw [sepAt_out h] at hs; cases hs
      refine ⟨b, ?_⟩
      rw [cntR_labs s q (e - p) p e rfl (by omega) (by omega) h2 h3, cntR_step s e q (by omega) he, hs, List.length_cons, d]
      simp; omega

/-! ### the segments -/
/-- A good segment: not empty, small, labels alone, a number without a leading zero. -/
structure Good (g : ByteArray) (B : Nat) : Prop where
  pos : 0 < g.size
  le : g.size ≤ B
  lab : g.data.toList.all labP = true
  can : allDig g.data.toList = true → isCanon g.data.toList = true

theorem all_dropWhile {l : List UInt8} {p q : UInt8 → Bool} (h : l.all p = true) : (l.dropWhile q).all p = true := by
  induction l with
  | nil => exact h
  | cons a t ih =>
    simp only [List.all_cons, Bool.and_eq_true] at h
    rw [List.dropWhile_cons]
    split
    · exact ih h.2
    · simp [h.1, h.2]
theorem canonL_len (l : List UInt8) (h : 0 < l.length) : 0 < (canonL l).length ∧ (canonL l).length ≤ l.length := by
  have hd : (l.dropWhile isZ).length ≤ l.length := by
    induction l with
    | nil => simp
    | cons a t ih =>
      rw [List.dropWhile_cons]
      split
      · by_cases ht : 0 < t.length
        · have := ih ht; simp; omega
        · have : t = [] := List.eq_nil_of_length_eq_zero (by omega)
          subst this; simp
      · simp
  unfold canonL
  split
  · exact ⟨by simp, by simp; omega⟩
  · next hn =>
    refine ⟨?_, hd⟩
    cases hc : l.dropWhile isZ with
    | nil => rw [hc] at hn; exact absurd rfl hn
    | cons a t => simp
theorem canonL_canon (l : List UInt8) (h : allDig l = true) : isCanon (canonL l) = true := by
  have hall : l.all digP = true := by simp [allDig] at h; simpa using h.2
  unfold canonL
  split
  · rfl
  · next hn =>
    have h2 := all_dropWhile (q := isZ) hall
    cases hc : l.dropWhile isZ with
    | nil => rw [hc] at hn; exact absurd rfl hn
    | cons a t =>
      rw [hc] at h2
      have ha : isZ a = false := by
        have := List.head_dropWhile_not isZ (l := l) (by rw [hc]; simp)
        simpa [hc] using this
      simp [isCanon, allDig, h2, ha]
theorem canonL_lab (l : List UInt8) (h : l.all labP = true) : (canonL l).all labP = true := by
  unfold canonL
  split
  · rfl
  · exact all_dropWhile h
theorem seg_lab {s : ByteArray} {p e : Nat} (h2 : e ≤ s.size) (h : ∀ k, p ≤ k → k < e → labAt s k = true) : (s.extract p e).data.toList.all labP = true := by
  rw [Lib.extract_data, List.all_eq_true]
  intro x hx
  obtain ⟨j, hj⟩ := List.getElem?_of_mem hx
  have hl : j < e - p := by
    have := (List.getElem?_eq_some_iff.1 hj).1
    simp at this; omega
  rw [List.getElem?_take_of_lt hl, List.getElem?_drop] at hj
  have hk : p + j < s.size := by omega
  have := h (p + j) (by omega) (by omega)
  rw [labAt_in hk] at this
  have e2 : s.data.toList[p + j]? = some s[p + j] := List.getElem?_eq_getElem (l := s.data.toList) (by simpa using hk)
  rw [e2] at hj
  cases hj
  exact this
theorem canon_good {s : ByteArray} {p e : Nat} (h1 : p < e) (h2 : e ≤ s.size) (h : ∀ k, p ≤ k → k < e → labAt s k = true) : Good (canon (s.extract p e)) s.size := by
  have hsz : (s.extract p e).size = e - p := by simp; omega
  have hl := seg_lab h2 h
  unfold canon
  split
  · next ha =>
    have hlen : (s.extract p e).data.toList.length = e - p := by rw [← Lib.size_eq]; exact hsz
    have := canonL_len (s.extract p e).data.toList (by omega)
    exact ⟨by rw [Lib.size_mk]; exact this.1, by rw [Lib.size_mk]; omega, canonL_lab _ hl, fun _ => canonL_canon _ ha⟩
  · next ha => exact ⟨by omega, by omega, hl, fun h => absurd h ha⟩
theorem scan_good {s : ByteArray} : ∀ {gs : List ByteArray} {p : Nat} {ok : Bool} {q : Nat}, Scan s gs p ok q → ∀ g ∈ gs, Good g s.size
  | [], _, _, _, _, g, hg => by cases hg
  | g0 :: gs, p, ok, q, ⟨e, h1, h2, h3, h4, h5, h6⟩, g, hg => by
    rcases List.mem_cons.1 hg with rfl | hg
    · rw [h5]; exact canon_good h1 h2 h3
    · rcases h6 with ⟨rfl, _⟩ | ⟨_, h⟩
      · cases hg
      · exact scan_good h g hg
theorem scan_few {s : ByteArray} : ∀ {gs : List ByteArray} {p : Nat} {ok : Bool} {q : Nat}, Scan s gs p ok q → gs.length ≤ s.size + 1
  | gs, p, ok, q, h => by
    have hc : ∀ p q, cntR s p q ≤ s.size := fun p q => by
      refine Nat.le_trans (cnt_le _) ?_
      rw [List.length_take, List.length_drop, ← Lib.size_eq]; omega
    cases ok with
    | true => have := (scan_ok h).2.2.2; have := hc p q; omega
    | false => have := (scan_no h).2; have := hc p q; omega

/-- It reads one thing only. -/
theorem scan_det {s : ByteArray} : ∀ {gs gs' : List ByteArray} {p : Nat} {ok ok' : Bool} {q q' : Nat}, Scan s gs p ok q → Scan s gs' p ok' q' → gs = gs' ∧ ok = ok' ∧ q = q'
  | [], [], p, ok, ok', q, q', h, h' => ⟨rfl, by rw [h.1, h'.1], by rw [h.2.1, h'.2.1]⟩
  | [], g :: gs, p, ok, ok', q, q', h, ⟨e, h1, h2, h3, _⟩ => by
    have := h3 p (Nat.le_refl _) h1; rw [h.2.2] at this; cases this
  | g :: gs, [], p, ok, ok', q, q', ⟨e, h1, h2, h3, _⟩, h => by
    have := h3 p (Nat.le_refl _) h1; rw [h.2.2] at this; cases this
  | g :: gs, g' :: gs', p, ok, ok', q, q', ⟨e, h1, h2, h3, h4, h5, h6⟩, ⟨e', k1, k2, k3, k4, k5, k6⟩ => by
    have he : e = e' := by
      rcases Nat.lt_trichotomy e e' with h | h | h
      · have := k3 e (by omega) h; rw [h4] at this; cases this
      · exact h
      · have := h3 e' (by omega) h; rw [k4] at this; cases this
    subst he
    rcases h6 with ⟨rfl, rfl, rfl, a⟩ | ⟨a, h⟩
    · rcases k6 with ⟨rfl, rfl, rfl, b⟩ | ⟨b, k⟩
      · exact ⟨by rw [h5, k5], rfl, rfl⟩
      · rw [a] at b; cases b
    · rcases k6 with ⟨rfl, rfl, rfl, b⟩ | ⟨b, k⟩
      · rw [a] at b; cases b
      · obtain ⟨rfl, rfl, rfl⟩ := scan_det h k
        exact ⟨by rw [h5, k5], rfl, rfl⟩
end Go.Proofs.Qxb6604188aDoor
