/-
  THE PLAIN LAW, with no Go in sight: 'stp cm l k': what StripCR has kept behind its first k rounds over the bytes l. 'strip cm l': all rounds.
  · 'stp_run': over a run of CRs: what the run model appends. · 'strip_idem': a second pass turns nothing. · 'strip_false_strip': the two modes differ in CRs alone.
-/
namespace Go.Proofs.Yoeejw.Plain

/-- Is the byte at place k kept, when 'o' has been kept so far? -/
def keep (cm : Bool) (l o : List Int) (k : Nat) : Bool :=
  l.getD k 0 != 13 || (cm && decide (2 < o.length) && o.getD (o.length - 1) 0 == 42 && decide (k + 1 < l.length) && l.getD (k + 1) 0 == 47)

def stp (cm : Bool) (l : List Int) : Nat → List Int
  | 0 => []
  | k + 1 => if keep cm l (stp cm l k) k = true then stp cm l k ++ [l.getD k 0] else stp cm l k

def strip (cm : Bool) (l : List Int) : List Int := stp cm l l.length

theorem stp_keep {cm : Bool} {l : List Int} {k : Nat} (h : keep cm l (stp cm l k) k = true) : stp cm l (k + 1) = stp cm l k ++ [l.getD k 0] := by
  simp [stp, h]

theorem stp_drop {cm : Bool} {l : List Int} {k : Nat} (h : keep cm l (stp cm l k) k = false) : stp cm l (k + 1) = stp cm l k := by
  simp [stp, h]

theorem stp_length (cm : Bool) (l : List Int) (k : Nat) : (stp cm l k).length ≤ k := by
  induction k with
  | zero => simp [stp]
  | succ k ih =>
    cases h : keep cm l (stp cm l k) k with
    | true => rw [stp_keep h]; simp; omega
    | false => rw [stp_drop h]; omega

theorem strip_length (cm : Bool) (l : List Int) : (strip cm l).length ≤ l.length := stp_length cm l l.length

theorem strip_nil (cm : Bool) : strip cm [] = [] := rfl

/-! ### The ways of one round -/
theorem keep_plain {cm : Bool} {l o : List Int} {k : Nat} (h : (l.getD k 0 != 13) = true) : keep cm l o k = true := by
  simp only [keep, h, Bool.true_or]

theorem keep_star {l o : List Int} {k : Nat} (h1 : 2 < o.length) (h2 : (o.getD (o.length - 1) 0 == 42) = true) (h3 : k + 1 < l.length) (h4 : (l.getD (k + 1) 0 == 47) = true) :
    keep true l o k = true := by
  simp only [keep, h1, h2, h3, h4, decide_true, Bool.and_self, Bool.or_true]

theorem drop_mode {l o : List Int} {k : Nat} (h : (l.getD k 0 != 13) = false) : keep false l o k = false := by
  simp only [keep, h, Bool.false_and, Bool.or_self]

theorem drop_short {cm : Bool} {l o : List Int} {k : Nat} (h : (l.getD k 0 != 13) = false) (h1 : ¬ 2 < o.length) : keep cm l o k = false := by
  simp only [keep, h, decide_eq_false h1, Bool.and_false, Bool.false_and, Bool.or_self]

theorem drop_star {cm : Bool} {l o : List Int} {k : Nat} (h : (l.getD k 0 != 13) = false) (h2 : (o.getD (o.length - 1) 0 == 42) = false) : keep cm l o k = false := by
  simp only [keep, h, h2, Bool.and_false, Bool.false_and, Bool.or_self]

theorem drop_end {cm : Bool} {l o : List Int} {k : Nat} (h : (l.getD k 0 != 13) = false) (h3 : ¬ k + 1 < l.length) : keep cm l o k = false := by
  simp only [keep, h, decide_eq_false h3, Bool.and_false, Bool.false_and, Bool.or_self]

theorem drop_slash {cm : Bool} {l o : List Int} {k : Nat} (h : (l.getD k 0 != 13) = false) (h4 : (l.getD (k + 1) 0 == 47) = false) : keep cm l o k = false := by
  simp only [keep, h, h4, Bool.and_false, Bool.or_self]

/-! ### A run of CRs -/
/-- Inside a run nothing is kept: the next byte is a CR, no slash. -/
theorem stp_inrun {cm : Bool} {l : List Int} {j : Nat} (m : Nat) (h : ∀ t, t ≤ m → l.getD (j + t) 0 = 13) : stp cm l (j + m) = stp cm l j := by
  induction m with
  | zero => rfl
  | succ m ih =>
    have e : stp cm l (j + m) = stp cm l j := ih (fun t ht => h t (by omega))
    have h1 := h m (by omega)
    have h2 := h (m + 1) (by omega)
    rw [show j + (m + 1) = (j + m) + 1 from by omega, stp_drop (drop_slash (by rw [h1]; decide) (by rw [show j + m + 1 = j + (m + 1) from by omega, h2]; decide)), e]

/-- THE RUN MODEL's STEP: a run from j up to r (r not in it): nothing, or one CR, is kept. -/
theorem stp_run {cm : Bool} {l : List Int} {j r : Nat} (hj : j < r) (h : ∀ t, j ≤ t → t < r → l.getD t 0 = 13) :
    stp cm l r = if keep cm l (stp cm l j) (r - 1) = true then stp cm l j ++ [13] else stp cm l j := by
  have e : stp cm l (j + (r - 1 - j)) = stp cm l j := stp_inrun (r - 1 - j) (fun t ht => h (j + t) (by omega) (by omega))
  rw [show j + (r - 1 - j) = r - 1 from by omega] at e
  have h1 := h (r - 1) (by omega) (by omega)
  rw [show r = (r - 1) + 1 from by omega]
  simp only [Nat.add_sub_cancel, stp, e, h1]

/-! ### The two modes -/
theorem filter_yes {x : Int} (h : (x != 13) = true) : [x].filter (· != 13) = [x] := by rw [List.filter_cons, if_pos h]; rfl
theorem filter_no {x : Int} (h : (x != 13) = false) : [x].filter (· != 13) = [] := by rw [List.filter_cons, if_neg (by rw [h]; decide)]; rfl

theorem filter_stp (cm : Bool) (l : List Int) (k : Nat) (hk : k ≤ l.length) : (stp cm l k).filter (· != 13) = (l.take k).filter (· != 13) := by
  induction k with
  | zero => simp [stp]
  | succ k ih =>
    have ih := ih (by omega)
    have hl : k < l.length := by omega
    have ht : l.take (k + 1) = l.take k ++ [l.getD k 0] := by rw [List.take_succ_eq_append_getElem hl]; simp [hl]
    rw [ht, List.filter_append, ← ih]
    cases h : keep cm l (stp cm l k) k with
    | true => rw [stp_keep h, List.filter_append]
    | false =>
      rw [stp_drop h]
      have hc : (l.getD k 0 != 13) = false := by
        cases hc : (l.getD k 0 != 13) with
        | false => rfl
        | true => rw [keep_plain hc] at h; cases h
      rw [filter_no hc, List.append_nil]

theorem stp_false (l : List Int) (k : Nat) (hk : k ≤ l.length) : stp false l k = (l.take k).filter (· != 13) := by
  induction k with
  | zero => simp [stp]
  | succ k ih =>
    have ih := ih (by omega)
    have hl : k < l.length := by omega
    have ht : l.take (k + 1) = l.take k ++ [l.getD k 0] := by rw [List.take_succ_eq_append_getElem hl]; simp [hl]
    rw [ht, List.filter_append, ← ih]
    cases hc : (l.getD k 0 != 13) with
    | true => rw [stp_keep (keep_plain hc), filter_yes hc]
    | false => rw [stp_drop (drop_mode hc), filter_no hc, List.append_nil]

theorem strip_false (l : List Int) : strip false l = l.filter (· != 13) := by
  have h := stp_false l l.length (Nat.le_refl _)
  rwa [List.take_length] at h

/-- THE TWO MODES DIFFER IN CRs ALONE. -/
theorem strip_false_strip (cm : Bool) (l : List Int) : strip false (strip cm l) = strip false l := by
  rw [strip_false, strip_false]
  have h := filter_stp cm l l.length (Nat.le_refl _)
  rwa [List.take_length] at h

/-! ### A second pass -/
/-- What is known of a byte that was kept. -/
def Fit (cm : Bool) (l o : List Int) (k i : Nat) : Prop :=
  o.getD i 0 ≠ 13 ∨ (cm = true ∧ 2 < i ∧ o.getD (i - 1) 0 = 42 ∧ ((i + 1 < o.length ∧ o.getD (i + 1) 0 = 47) ∨ (i + 1 = o.length ∧ k < l.length ∧ l.getD k 0 = 47)))

theorem getD_left (o : List Int) (x : Int) (i : Nat) (h : i < o.length) : (o ++ [x]).getD i 0 = o.getD i 0 := by
  simp [List.getD, List.getElem?_append_left h]

theorem getD_last (o : List Int) (x : Int) : (o ++ [x]).getD o.length 0 = x := by simp [List.getD]

theorem fit_stp (cm : Bool) (l : List Int) (k : Nat) : ∀ i, i < (stp cm l k).length → Fit cm l (stp cm l k) k i := by
  induction k with
  | zero => intro i hi; simp [stp] at hi
  | succ k ih =>
    generalize ho : stp cm l k = o at ih
    cases h : keep cm l o k with
    | true =>
      rw [stp_keep (by rw [ho]; exact h), ho]
      intro i hi
      simp only [List.length_append, List.length_cons, List.length_nil] at hi
      by_cases hlt : i < o.length
      · rcases ih i hlt with f | ⟨f0, f1, f2, f3⟩
        · exact .inl (by rwa [getD_left _ _ _ hlt])
        · refine .inr ⟨f0, f1, by rwa [getD_left _ _ _ (by omega)], .inl ⟨by simp; omega, ?_⟩⟩
          rcases f3 with ⟨g1, g2⟩ | ⟨g1, g2, g3⟩
          · rwa [getD_left _ _ _ g1]
          · rw [g1, getD_last]; exact g3
      · obtain rfl : i = o.length := by omega
        by_cases hc : l.getD k 0 = 13
        · have hc' : (l.getD k 0 != 13) = false := by rw [hc]; rfl
          simp only [keep, hc', Bool.false_or, Bool.and_eq_true, decide_eq_true_eq, beq_iff_eq] at h
          obtain ⟨⟨⟨⟨q0, q1⟩, q2⟩, q3⟩, q4⟩ := h
          exact .inr ⟨q0, q1, by rw [getD_left _ _ _ (by omega)]; exact q2, .inr ⟨by simp, q3, q4⟩⟩
        · exact .inl (by rw [getD_last]; exact hc)
    | false =>
      rw [stp_drop (by rw [ho]; exact h), ho]
      intro i hi
      have hc : l.getD k 0 = 13 := by
        cases hc : (l.getD k 0 != 13) with
        | false => simpa using hc
        | true => rw [keep_plain hc] at h; cases h
      rcases ih i hi with f | ⟨f0, f1, f2, f3⟩
      · exact .inl f
      · rcases f3 with ⟨g1, g2⟩ | ⟨g1, g2, g3⟩
        · exact .inr ⟨f0, f1, f2, .inl ⟨g1, g2⟩⟩
        · rw [hc] at g3; exact absurd g3 (by decide)

theorem fit_strip (cm : Bool) (l : List Int) (i : Nat) (hi : i < (strip cm l).length) :
    (strip cm l).getD i 0 ≠ 13 ∨ (cm = true ∧ 2 < i ∧ (strip cm l).getD (i - 1) 0 = 42 ∧ i + 1 < (strip cm l).length ∧ (strip cm l).getD (i + 1) 0 = 47) := by
  rcases fit_stp cm l l.length i hi with f | ⟨f0, f1, f2, ⟨g1, g2⟩ | ⟨_, g2, _⟩⟩
  · exact .inl f
  · exact .inr ⟨f0, f1, f2, g1, g2⟩
  · omega

/-- Bytes that all fit are all kept. -/
theorem stp_of_fit (cm : Bool) (o : List Int) (h : ∀ i, i < o.length → o.getD i 0 ≠ 13 ∨ (cm = true ∧ 2 < i ∧ o.getD (i - 1) 0 = 42 ∧ i + 1 < o.length ∧ o.getD (i + 1) 0 = 47)) (k : Nat) (hk : k ≤ o.length) :
    stp cm o k = o.take k := by
  induction k with
  | zero => simp [stp]
  | succ k ih =>
    have ih := ih (by omega)
    have hl : k < o.length := by omega
    have ht : o.take (k + 1) = o.take k ++ [o.getD k 0] := by rw [List.take_succ_eq_append_getElem hl]; simp [hl]
    have hlen : (stp cm o k).length = k := by rw [ih]; simp; omega
    rw [stp_keep, ih, ht]
    rcases h k hl with f | ⟨f0, f1, f2, f3, f4⟩
    · exact keep_plain (by simpa using f)
    · rw [f0]
      rw [f0] at ih hlen
      refine keep_star (by omega) ?_ f3 (by simpa using f4)
      rw [hlen, ih]
      have e : (o.take k).getD (k - 1) 0 = o.getD (k - 1) 0 := by simp [List.getD, show k - 1 < k from by omega]
      rw [e, f2]; rfl

/-- A SECOND PASS TURNS NOTHING. -/
theorem strip_idem (cm : Bool) (l : List Int) : strip cm (strip cm l) = strip cm l := by
  have h := stp_of_fit cm (strip cm l) (fit_strip cm l) (strip cm l).length (Nat.le_refl _)
  rwa [List.take_length] at h

end Go.Proofs.Yoeejw.Plain
