/-
  THE PLAIN LAWS of seat b6630730a: lists and integers alone; no Go in sight.
-/
namespace Go.Proofs.Qxb6630730a.Plain

/-- Strictly increasing, each below 'next', of the first k cells. -/
def okTo (zs : List Int) (next : Int) (k : Nat) : Prop :=
  ∀ i, i < k → zs.getD i 0 < next ∧ (0 < i → zs.getD (i - 1) 0 < zs.getD i 0)

/-- What zzIDs gathers in k rounds from 'start' on. -/
def gather (zs : List Int) (start : Nat) (skip : Int) : Nat → List Int
  | 0 => []
  | k + 1 => if ((start + k : Nat) : Int) = skip then gather zs start skip k else gather zs start skip k ++ [zs.getD (start + k) 0]

theorem gather_le (zs : List Int) (start : Nat) (skip : Int) (k : Nat) : (gather zs start skip k).length ≤ k := by
  induction k with
  | zero => simp [gather]
  | succ k ih =>
    simp only [gather]
    split
    · omega
    · simp; omega

/-- Membership in what was gathered. -/
theorem mem_gather (zs : List Int) (start : Nat) (skip : Int) (k : Nat) (x : Int) :
    x ∈ gather zs start skip k ↔ ∃ j, j < k ∧ ((start + j : Nat) : Int) ≠ skip ∧ zs.getD (start + j) 0 = x := by
  induction k with
  | zero => simp [gather]
  | succ k ih =>
    simp only [gather]
    split
    · next h =>
      rw [ih]
      constructor
      · rintro ⟨j, h1, h2, h3⟩
        exact ⟨j, by omega, h2, h3⟩
      · rintro ⟨j, h1, h2, h3⟩
        by_cases hj : j = k
        · subst hj; exact absurd h h2
        · exact ⟨j, by omega, h2, h3⟩
    · next h =>
      rw [List.mem_append, ih]
      constructor
      · rintro (⟨j, h1, h2, h3⟩ | hx)
        · exact ⟨j, by omega, h2, h3⟩
        · simp only [List.mem_singleton] at hx
          exact ⟨k, by omega, h, hx.symm⟩
      · rintro ⟨j, h1, h2, h3⟩
        by_cases hj : j = k
        · subst hj; right; simp only [List.mem_singleton]; exact h3.symm
        · left; exact ⟨j, by omega, h2, h3⟩

/-- The elements rise. -/
theorem okTo_lt {zs : List Int} {next : Int} {n : Nat} (h : okTo zs next n) (d i : Nat) (hj : i + d + 1 < n) : zs.getD i 0 < zs.getD (i + d + 1) 0 := by
  induction d with
  | zero =>
    have := (h (i + 1) hj).2 (by omega)
    rw [Nat.add_sub_cancel] at this
    exact this
  | succ d ih =>
    have h1 := ih (by omega)
    have h2 := (h (i + d + 1 + 1) (by omega)).2 (by omega)
    rw [Nat.add_sub_cancel] at h2
    have e : i + (d + 1) + 1 = i + d + 1 + 1 := by omega
    rw [e]
    omega

theorem okTo_mono {zs : List Int} {next : Int} {n : Nat} (h : okTo zs next n) {i j : Nat} (hij : i < j) (hj : j < n) : zs.getD i 0 < zs.getD j 0 := by
  have := okTo_lt h (j - i - 1) i (by omega)
  have e : i + (j - i - 1) + 1 = j := by omega
  rw [e] at this
  exact this

theorem okTo_inj {zs : List Int} {next : Int} {n : Nat} (h : okTo zs next n) {i j : Nat} (hi : i < n) (hj : j < n) (e : zs.getD i 0 = zs.getD j 0) : i = j := by
  rcases Nat.lt_trichotomy i j with hl | hl | hl
  · have := okTo_mono h hl hj; omega
  · exact hl
  · have := okTo_mono h hl hi; omega

/-- What was gathered is sorted. -/
theorem gather_sorted {zs : List Int} {next : Int} {n : Nat} (h : okTo zs next n) (start : Nat) (skip : Int) (k : Nat) (hk : start + k ≤ n) :
    (gather zs start skip k).Pairwise (· < ·) := by
  induction k with
  | zero => simp [gather]
  | succ k ih =>
    simp only [gather]
    split
    · exact ih (by omega)
    · rw [List.pairwise_append]
      refine ⟨ih (by omega), by simp, ?_⟩
      intro a ha b hb
      simp only [List.mem_singleton] at hb
      subst hb
      obtain ⟨j, h1, _, h3⟩ := (mem_gather zs start skip k a).1 ha
      rw [← h3]
      exact okTo_mono h (by omega) (by omega)

/-- What a view answers, as the text tests it. -/
def sees (c : Int) (ids : List Int) (low next : Int) (u : Bool) (w : Int) : Bool :=
  u || decide (w = c) || decide (w < low) || (decide (w < next) && !(ids.contains w))

/-- The least running id, or next. -/
def lowOf (ids : List Int) (next : Int) : Int := if 0 < ids.length then ids.getD 0 0 else next

theorem sees_iff (c : Int) (ids : List Int) (next : Int) (u : Bool) (w : Int) (hs : ids.Pairwise (· < ·)) (hb : ∀ x ∈ ids, x < next) :
    sees c ids (lowOf ids next) next u w = true ↔ (u = true ∨ w = c ∨ (w < next ∧ ¬ w ∈ ids)) := by
  unfold sees
  cases ids with
  | nil => cases u <;> simp [lowOf]
  | cons a r =>
    have e : lowOf (a :: r) next = a := by simp [lowOf]
    have ha : a < next := hb a (by simp)
    have hr : ∀ x ∈ r, a < x := (List.pairwise_cons.1 hs).1
    rw [e]
    have hmem : w < a → ¬ w ∈ (a :: r) := by
      intro hw hm
      rcases List.mem_cons.1 hm with h | h
      · omega
      · have := hr w h; omega
    have hct : (a :: r).contains w = true ↔ w ∈ (a :: r) := List.contains_iff_mem
    by_cases hm : w ∈ (a :: r)
    · have hc : (a :: r).contains w = true := hct.2 hm
      rw [hc]
      have hna : ¬ w < a := fun h => hmem h hm
      simp only [hna, hm, Bool.or_eq_true, decide_eq_true_eq, Bool.and_eq_true, Bool.not_true, decide_false, not_true, and_false, or_false]
      constructor
      · rintro (((h | h) | h) | h)
        · exact Or.inl h
        · exact Or.inr h
        · cases h
        · cases h.2
      · rintro (h | h)
        · exact Or.inl (Or.inl (Or.inl h))
        · exact Or.inl (Or.inl (Or.inr h))
    · have hc : (a :: r).contains w = false := by
        cases hx : (a :: r).contains w
        · rfl
        · exact absurd (hct.1 hx) hm
      rw [hc]
      simp only [Bool.or_eq_true, decide_eq_true_eq, Bool.and_eq_true, Bool.not_false]
      constructor
      · rintro (((h | h) | h) | h)
        · exact Or.inl h
        · exact Or.inr (Or.inl h)
        · exact Or.inr (Or.inr ⟨by omega, hm⟩)
        · exact Or.inr (Or.inr ⟨h.1, hm⟩)
      · rintro (h | h | h)
        · exact Or.inl (Or.inl (Or.inl h))
        · exact Or.inl (Or.inl (Or.inr h))
        · exact Or.inr ⟨h.1, trivial⟩

/-- What a view made of gathered ids answers. -/
theorem sees_gather {zs : List Int} {next : Int} {n : Nat} (h : okTo zs next n) (c : Int) (u : Bool) (w : Int) (start : Nat) (skip : Int) (k : Nat) (hk : start + k ≤ n) :
    sees c (gather zs start skip k) (lowOf (gather zs start skip k) next) next u w = true ↔
      (u = true ∨ w = c ∨ (w < next ∧ ¬ ∃ j, j < k ∧ ((start + j : Nat) : Int) ≠ skip ∧ zs.getD (start + j) 0 = w)) := by
  rw [sees_iff c _ next u w (gather_sorted h start skip k hk) (fun x hx => ?_), mem_gather]
  obtain ⟨j, h1, _, h3⟩ := (mem_gather zs start skip k x).1 hx
  rw [← h3]
  exact (h (start + j) (by omega)).1

/-- A view over gathered ids. -/
def view (zs : List Int) (start : Nat) (skip : Int) (k : Nat) (c next : Int) (u : Bool) (w : Int) : Bool :=
  sees c (gather zs start skip k) (lowOf (gather zs start skip k) next) next u w

/-! ### FnSeesAfterCommit -/
theorem after_one {zs : List Int} {next : Int} {n k : Nat} (h : okTo zs next n) (hk : k < n) (c : Int) (u : Bool) (w : Int) :
    view zs 0 (k : Int) n c next u w = (view zs 0 (-1) n c next u w || (w == zs.getD k 0)) := by
  rw [Bool.eq_iff_iff, Bool.or_eq_true, beq_iff_eq]
  unfold view
  rw [sees_gather h c u w 0 _ n (by omega), sees_gather h c u w 0 _ n (by omega)]
  have hkn := (h k hk).1
  constructor
  · rintro (h1 | h1 | ⟨h1, h2⟩)
    · exact Or.inl (Or.inl h1)
    · exact Or.inl (Or.inr (Or.inl h1))
    · by_cases e : w = zs.getD k 0
      · exact Or.inr e
      · refine Or.inl (Or.inr (Or.inr ⟨h1, ?_⟩))
        rintro ⟨j, hj, _, e2⟩
        refine h2 ⟨j, hj, ?_, e2⟩
        intro e3
        have : j = k := by omega
        subst this
        simp only [Nat.zero_add] at e2
        exact e e2.symm
  · rintro ((h1 | h1 | ⟨h1, h2⟩) | h1)
    · exact Or.inl h1
    · exact Or.inr (Or.inl h1)
    · refine Or.inr (Or.inr ⟨h1, ?_⟩)
      rintro ⟨j, hj, _, e2⟩
      exact h2 ⟨j, hj, by omega, e2⟩
    · refine Or.inr (Or.inr ⟨by omega, ?_⟩)
      rintro ⟨j, hj, h3, e2⟩
      simp only [Nat.zero_add] at e2 h3
      have := okTo_inj h hj hk (by omega)
      omega

theorem after_two {zs : List Int} {next : Int} {n k : Nat} (h : okTo zs next n) (hk : k < n) (c : Int) (u : Bool) :
    view zs 0 (k : Int) n c next u (zs.getD k 0) = true := by
  rw [after_one h hk]; simp

theorem after_three {zs : List Int} {next : Int} {n k : Nat} (h : okTo zs next n) (hk : k < n) (c : Int) (u : Bool) :
    view zs 0 (-1) n c next u (zs.getD k 0) = (u || (zs.getD k 0 == c)) := by
  rw [Bool.eq_iff_iff, Bool.or_eq_true, beq_iff_eq]
  unfold view
  rw [sees_gather h c u _ 0 _ n (by omega)]
  constructor
  · rintro (h1 | h1 | ⟨_, h2⟩)
    · exact Or.inl h1
    · exact Or.inr h1
    · exact absurd ⟨k, hk, by omega, by rw [Nat.zero_add]⟩ h2
  · rintro (h1 | h1)
    · exact Or.inl h1
    · exact Or.inr (Or.inl h1)

/-! ### FnSeesSplitActive -/
theorem split_empty (zs : List Int) (next : Int) (c : Int) (u : Bool) (w : Int) :
    view zs 0 (-1) 0 c next u w = (u || ((w == c) || decide (w < next))) := by
  unfold view gather sees lowOf
  cases u <;> simp [Bool.beq_eq_decide_eq]

theorem split_whole {zs : List Int} {next : Int} {n cut : Nat} (h : okTo zs next n) (hk : cut ≤ n) (c : Int) (u : Bool) (w : Int) :
    view zs 0 (-1) n c next u w = (view zs 0 (-1) cut c next u w && view zs cut (-1) (n - cut) c next u w) := by
  rw [Bool.eq_iff_iff, Bool.and_eq_true]
  unfold view
  rw [sees_gather h c u w 0 _ n (by omega), sees_gather h c u w 0 _ cut (by omega), sees_gather h c u w cut _ (n - cut) (by omega)]
  constructor
  · rintro (h1 | h1 | ⟨h1, h2⟩)
    · exact ⟨Or.inl h1, Or.inl h1⟩
    · exact ⟨Or.inr (Or.inl h1), Or.inr (Or.inl h1)⟩
    · refine ⟨Or.inr (Or.inr ⟨h1, ?_⟩), Or.inr (Or.inr ⟨h1, ?_⟩)⟩
      · rintro ⟨j, hj, h3, e⟩
        exact h2 ⟨j, by omega, h3, e⟩
      · rintro ⟨j, hj, h3, e⟩
        exact h2 ⟨cut + j, by omega, by omega, by rw [Nat.zero_add]; exact e⟩
  · rintro ⟨h1 | h1 | ⟨h1, h2⟩, h3⟩
    · exact Or.inl h1
    · exact Or.inr (Or.inl h1)
    · rcases h3 with h3 | h3 | ⟨_, h4⟩
      · exact Or.inl h3
      · exact Or.inr (Or.inl h3)
      · refine Or.inr (Or.inr ⟨h1, ?_⟩)
        rintro ⟨j, hj, _, e⟩
        by_cases hjc : j < cut
        · exact h2 ⟨j, hjc, by omega, e⟩
        · refine h4 ⟨j - cut, by omega, by omega, ?_⟩
          rw [show cut + (j - cut) = 0 + j from by omega]
          exact e

/-- Is x among the first n? -/
def has (zs : List Int) (x : Int) (n : Nat) : Prop := ∃ j, j < n ∧ zs.getD j 0 = x

theorem split_hidden {zs : List Int} {next : Int} {n : Nat} (h : okTo zs next n) (c : Int) (w : Int) (hh : has zs w n) (hc : ¬ w = c) :
    view zs 0 (-1) n c next false w = false := by
  cases hv : view zs 0 (-1) n c next false w
  · rfl
  · unfold view at hv
    rw [sees_gather h c false w 0 _ n (by omega)] at hv
    rcases hv with h1 | h1 | ⟨_, h2⟩
    · cases h1
    · exact absurd h1 hc
    · obtain ⟨j, hj, e⟩ := hh
      exact absurd ⟨j, hj, by omega, by rw [Nat.zero_add]; exact e⟩ h2

end Go.Proofs.Qxb6630730a.Plain
