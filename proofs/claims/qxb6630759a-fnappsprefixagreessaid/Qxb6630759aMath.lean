/-
  THE PLAIN LAWS of seat b6630759a: ranks of first appearances; no Go in sight.
-/
namespace Go.Proofs.Qxb6630759a.Plain
section
variable {α : Type} [DecidableEq α]

/-- The least place below k at which x stands, or k. -/
def fstTo (nm : Nat → α) (x : α) : Nat → Nat
  | 0 => 0
  | k + 1 => if fstTo nm x k < k then fstTo nm x k else if nm k = x then k else k + 1

theorem fstTo_spec (nm : Nat → α) (x : α) (k : Nat) : fstTo nm x k ≤ k ∧ (fstTo nm x k < k → nm (fstTo nm x k) = x) ∧ ∀ g, g < fstTo nm x k → nm g ≠ x := by
  induction k with
  | zero => exact ⟨Nat.le_refl _, fun h => absurd h (Nat.lt_irrefl _), fun g hg => absurd hg (Nat.not_lt_zero _)⟩
  | succ k ih =>
    obtain ⟨h1, h2, h3⟩ := ih
    by_cases hl : fstTo nm x k < k
    · have e : fstTo nm x (k + 1) = fstTo nm x k := by simp only [fstTo]; rw [if_pos hl]
      rw [e]
      exact ⟨by omega, fun _ => h2 hl, h3⟩
    · have ek : fstTo nm x k = k := by omega
      rw [ek] at h3
      by_cases hx : nm k = x
      · have e : fstTo nm x (k + 1) = k := by simp only [fstTo]; rw [if_neg hl, if_pos hx]
        rw [e]
        exact ⟨by omega, fun _ => hx, h3⟩
      · have e : fstTo nm x (k + 1) = k + 1 := by simp only [fstTo]; rw [if_neg hl, if_neg hx]
        rw [e]
        refine ⟨Nat.le_refl _, fun h => absurd h (Nat.lt_irrefl _), fun g hg => ?_⟩
        by_cases hgk : g = k
        · subst hgk; exact hx
        · exact h3 g (by omega)

/-- The first place of the name at f. -/
def fst (nm : Nat → α) (f : Nat) : Nat := fstTo nm (nm f) f

theorem fst_le (nm : Nat → α) (f : Nat) : fst nm f ≤ f := (fstTo_spec nm (nm f) f).1
theorem fst_name (nm : Nat → α) (f : Nat) : nm (fst nm f) = nm f := by
  by_cases h : fst nm f < f
  · exact (fstTo_spec nm (nm f) f).2.1 h
  · have : fst nm f = f := by have := fst_le nm f; omega
    rw [this]
theorem fst_least (nm : Nat → α) (f g : Nat) (h : g < fst nm f) : nm g ≠ nm f := (fstTo_spec nm (nm f) f).2.2 g h

theorem fst_unique (nm : Nat → α) (f g : Nat) (h1 : nm g = nm f) (h2 : ∀ h, h < g → nm h ≠ nm f) : g = fst nm f := by
  rcases Nat.lt_trichotomy g (fst nm f) with h | h | h
  · exact absurd h1 (fst_least nm f g h)
  · exact h
  · exact absurd (fst_name nm f) (h2 _ h)

theorem fst_congr (nm : Nat → α) (i j : Nat) (h : nm i = nm j) : fst nm i = fst nm j :=
  fst_unique nm j (fst nm i) ((fst_name nm i).trans h) (fun g hg => by rw [← h]; exact fst_least nm i g hg)

theorem fst_fst (nm : Nat → α) (f : Nat) : fst nm (fst nm f) = fst nm f := fst_congr nm _ _ (fst_name nm f)

/-- How many first appearances stand below k. -/
def rank (nm : Nat → α) : Nat → Nat
  | 0 => 0
  | k + 1 => if fst nm k = k then rank nm k + 1 else rank nm k

theorem rank_le (nm : Nat → α) (k : Nat) : rank nm k ≤ k := by
  induction k with
  | zero => exact Nat.le_refl _
  | succ k ih => simp only [rank]; split <;> omega
theorem rank_step (nm : Nat → α) (k : Nat) : rank nm k ≤ rank nm (k + 1) := by simp only [rank]; split <;> omega
theorem rank_mono (nm : Nat → α) (i d : Nat) : rank nm i ≤ rank nm (i + d) := by
  induction d with
  | zero => exact Nat.le_refl _
  | succ d ih => exact Nat.le_trans ih (rank_step nm (i + d))

/-- The number of the application of function f. -/
def app (nm : Nat → α) (f : Nat) : Nat := rank nm (fst nm f)
theorem app_congr (nm : Nat → α) (i j : Nat) (h : nm i = nm j) : app nm i = app nm j := by unfold app; rw [fst_congr nm i j h]
theorem app_le (nm : Nat → α) (f : Nat) : app nm f ≤ f := Nat.le_trans (rank_le nm _) (fst_le nm f)
theorem app_first (nm : Nat → α) (f : Nat) (h : ∀ j, j < f → nm j ≠ nm f) : fst nm f = f ∧ app nm f = rank nm f := by
  have e : f = fst nm f := fst_unique nm f f rfl h
  refine ⟨e.symm, ?_⟩
  unfold app
  rw [← e]
theorem not_first (nm : Nat → α) (f j : Nat) (h1 : j < f) (h2 : nm j = nm f) : ¬ fst nm f = f := by
  intro e
  exact fst_least nm f j (by omega) h2

/-- One more than the greatest of the first k numbers, or 0. -/
def want (nm : Nat → α) : Nat → Nat
  | 0 => 0
  | k + 1 => if want nm k < app nm k + 1 then app nm k + 1 else want nm k

theorem want_rank (nm : Nat → α) (k : Nat) : want nm k = rank nm k := by
  induction k with
  | zero => rfl
  | succ k ih =>
    simp only [want, rank, ih]
    by_cases h : fst nm k = k
    · rw [if_pos h]
      have : app nm k = rank nm k := by unfold app; rw [h]
      rw [this, if_pos (by omega)]
    · rw [if_neg h]
      have hl : fst nm k < k := by have := fst_le nm k; omega
      have h1 : rank nm (fst nm k + 1) = rank nm (fst nm k) + 1 := by
        simp only [rank]; rw [if_pos (fst_fst nm k)]
      have h2 := rank_mono nm (fst nm k + 1) (k - fst nm k - 1)
      rw [show fst nm k + 1 + (k - fst nm k - 1) = k from by omega] at h2
      rw [if_neg (by unfold app; omega)]
end
end Go.Proofs.Qxb6630759a.Plain
