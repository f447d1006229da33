/-
  THE PLAIN LAWS of seat b6630790a: the end of a quoted literal; bytes as numbers; no Go in sight.
-/
namespace Go.Proofs.Qxb6630790a.Plain
section
variable (B : Nat → Nat) (n q : Nat) (esc : Bool)

/-- The loop of quotedEnd from place i on, with so much fuel. -/
def qe : Nat → Nat → Nat
  | 0, _ => n
  | f + 1, i =>
    if i < n then
      if B i = 92 then (if esc = true then qe f (i + 2) else qe f (i + 1))
      else if B i = q then (if i + 1 < n ∧ B (i + 1) = q then qe f (i + 2) else i + 1)
      else qe f (i + 1)
    else n

theorem qe_fuel : ∀ (f g i : Nat), n ≤ i + f → n ≤ i + g → qe B n q esc f i = qe B n q esc g i := by
  intro f
  induction f with
  | zero =>
    intro g i hf _
    cases g with
    | zero => rfl
    | succ g => simp only [qe]; rw [if_neg (by omega)]
  | succ f ih =>
    intro g i hf hg
    cases g with
    | zero => simp only [qe]; rw [if_neg (by omega)]
    | succ g =>
      simp only [qe]
      rw [ih g (i + 2) (by omega) (by omega), ih g (i + 1) (by omega) (by omega)]

/-- The end of the literal, as quotedEnd finds it from place i on. -/
def Q (i : Nat) : Nat := qe B n q esc n i

variable {B n q esc}

theorem Q_end {i : Nat} (h : n ≤ i) : Q B n q esc i = n := by
  unfold Q
  cases n with
  | zero => rfl
  | succ n => simp only [qe]; rw [if_neg (by omega)]
theorem Q_step {i : Nat} (h : i < n) : Q B n q esc i =
    if B i = 92 then (if esc = true then Q B n q esc (i + 2) else Q B n q esc (i + 1))
    else if B i = q then (if i + 1 < n ∧ B (i + 1) = q then Q B n q esc (i + 2) else i + 1)
    else Q B n q esc (i + 1) := by
  unfold Q
  rw [qe_fuel B n q esc n (n + 1) i (by omega) (by omega)]
  simp only [qe]
  rw [if_pos h]
theorem Q_bs_esc {i : Nat} (h : i < n) (hb : B i = 92) (he : esc = true) : Q B n q esc i = Q B n q esc (i + 2) := by
  rw [Q_step h, if_pos hb, if_pos he]
theorem Q_bs_raw {i : Nat} (h : i < n) (hb : B i = 92) (he : esc = false) : Q B n q esc i = Q B n q esc (i + 1) := by
  rw [Q_step h, if_pos hb, if_neg (by simp [he])]
theorem Q_two {i : Nat} (h : i + 1 < n) (hb : B i ≠ 92) (hq : B i = q) (hq2 : B (i + 1) = q) : Q B n q esc i = Q B n q esc (i + 2) := by
  rw [Q_step (by omega), if_neg hb, if_pos hq, if_pos ⟨h, hq2⟩]
theorem Q_ret {i : Nat} (h : i < n) (hb : B i ≠ 92) (hq : B i = q) (hq2 : ¬ (i + 1 < n ∧ B (i + 1) = q)) : Q B n q esc i = i + 1 := by
  rw [Q_step h, if_neg hb, if_pos hq, if_neg hq2]
theorem Q_other {i : Nat} (h : i < n) (hb : B i ≠ 92) (hq : B i ≠ q) : Q B n q esc i = Q B n q esc (i + 1) := by
  rw [Q_step h, if_neg hb, if_neg hq]

/-- It lies behind the place where it begins, and not behind the end. -/
theorem Q_bounds : ∀ (m i : Nat), n ≤ i + m → Q B n q esc i ≤ n ∧ (i ≤ n → i ≤ Q B n q esc i) := by
  intro m
  induction m with
  | zero => intro i h; rw [Q_end (by omega)]; exact ⟨Nat.le_refl _, fun h => h⟩
  | succ m ih =>
    intro i h
    by_cases hi : i < n
    · have h1 := ih (i + 1) (by omega)
      have h2 := ih (i + 2) (by omega)
      rw [Q_step hi]
      have h3 : i + 2 ≤ n → i + 2 ≤ Q B n q esc (i + 2) := h2.2
      have h4 : ¬ i + 2 ≤ n → Q B n q esc (i + 2) = n := fun h => Q_end (by omega)
      split
      · split
        · exact ⟨h2.1, fun _ => by by_cases hh : i + 2 ≤ n <;> omega⟩
        · exact ⟨h1.1, fun _ => by have := h1.2 (by omega); omega⟩
      · split
        · split
          · exact ⟨h2.1, fun _ => by by_cases hh : i + 2 ≤ n <;> omega⟩
          · exact ⟨by omega, fun _ => by omega⟩
        · exact ⟨h1.1, fun _ => by have := h1.2 (by omega); omega⟩
    · rw [Q_end (by omega)]; exact ⟨Nat.le_refl _, fun h => h⟩
theorem Q_le (i : Nat) : Q B n q esc i ≤ n := (Q_bounds n i (by omega)).1
theorem Q_ge {i : Nat} (h : i ≤ n) : i ≤ Q B n q esc i := (Q_bounds n i (by omega)).2 h

/-- Where it ends ahead of the script's end, it ends in the quote, and another byte follows. -/
theorem Q_quote : ∀ (m i : Nat), n ≤ i + m → Q B n q esc i < n → 0 < Q B n q esc i ∧ B (Q B n q esc i - 1) = q ∧ B (Q B n q esc i) ≠ q := by
  intro m
  induction m with
  | zero => intro i h hl; rw [Q_end (by omega)] at hl; omega
  | succ m ih =>
    intro i h hl
    by_cases hi : i < n
    · by_cases h92 : B i = 92
      · cases he : esc
        · subst he
          rw [Q_bs_raw hi h92 rfl] at hl ⊢
          exact ih (i + 1) (by omega) hl
        · subst he
          rw [Q_bs_esc hi h92 rfl] at hl ⊢
          exact ih (i + 2) (by omega) hl
      · by_cases hq : B i = q
        · by_cases hq2 : i + 1 < n ∧ B (i + 1) = q
          · rw [Q_two hq2.1 h92 hq hq2.2] at hl ⊢
            exact ih (i + 2) (by omega) hl
          · rw [Q_ret hi h92 hq hq2] at hl ⊢
            exact ⟨by omega, by rw [Nat.add_sub_cancel]; exact hq, fun e => hq2 ⟨hl, e⟩⟩
        · rw [Q_other hi h92 hq] at hl ⊢
          exact ih (i + 1) (by omega) hl
    · rw [Q_end (by omega)] at hl; omega

/-- It hangs on the literal alone: another script of the same bytes up to there, which ends there or goes on with another byte than the quote, gives the same end. -/
theorem Q_local {C : Nat → Nat} {m : Nat} : ∀ (d i : Nat), n ≤ i + d → (∀ j, i ≤ j → j < Q B n q esc i → C j = B j) →
    (m = Q B n q esc i ∨ (Q B n q esc i < n ∧ Q B n q esc i < m ∧ C (Q B n q esc i) ≠ q)) → Q C m q esc i = Q B n q esc i := by
  intro d
  induction d with
  | zero =>
    intro i h _ hc
    have e : Q B n q esc i = n := Q_end (by omega)
    rw [e] at hc ⊢
    rcases hc with hc | hc
    · subst hc; exact Q_end (by omega)
    · omega
  | succ d ih =>
    intro i h hag hc
    by_cases hi : i < n
    · have hge : i + 1 ≤ Q B n q esc i := by
        have h1 : i + 1 ≤ n → i + 1 ≤ Q B n q esc (i + 1) := fun h => Q_ge h
        have h2 : i + 2 ≤ n → i + 2 ≤ Q B n q esc (i + 2) := fun h => Q_ge h
        have h3 : ¬ i + 2 ≤ n → Q B n q esc (i + 2) = n := fun h => Q_end (by omega)
        rw [Q_step hi]
        split
        · split
          · by_cases hh : i + 2 ≤ n <;> omega
          · omega
        · split
          · split
            · by_cases hh : i + 2 ≤ n <;> omega
            · omega
          · omega
      have him : i < m := by omega
      have hCi : C i = B i := hag i (Nat.le_refl _) (by omega)
      by_cases h92 : B i = 92
      · cases he : esc
        · subst he
          rw [Q_bs_raw hi h92 rfl] at hag hc ⊢
          rw [Q_bs_raw him (hCi.trans h92) rfl]
          exact ih (i + 1) (by omega) (fun j hj => hag j (by omega)) hc
        · subst he
          rw [Q_bs_esc hi h92 rfl] at hag hc ⊢
          rw [Q_bs_esc him (hCi.trans h92) rfl]
          exact ih (i + 2) (by omega) (fun j hj => hag j (by omega)) hc
      · have hC92 : C i ≠ 92 := by rw [hCi]; exact h92
        by_cases hq : B i = q
        · by_cases hq2 : i + 1 < n ∧ B (i + 1) = q
          · have e := Q_two (esc := esc) hq2.1 h92 hq hq2.2
            have hge2 : i + 2 ≤ Q B n q esc i := by rw [e]; exact Q_ge (by omega)
            have hC1 : C (i + 1) = q := (hag (i + 1) (by omega) (by omega)).trans hq2.2
            rw [e] at hag hc ⊢
            rw [Q_two (by omega) hC92 (hCi.trans hq) hC1]
            exact ih (i + 2) (by omega) (fun j hj => hag j (by omega)) hc
          · have e := Q_ret (esc := esc) hi h92 hq hq2
            rw [e] at hc ⊢
            exact Q_ret him hC92 (hCi.trans hq) (fun hh => by
              rcases hc with hc | hc
              · omega
              · exact hc.2.2 hh.2)
        · rw [Q_other hi h92 hq] at hag hc ⊢
          rw [Q_other him hC92 (by rw [hCi]; exact hq)]
          exact ih (i + 1) (by omega) (fun j hj => hag j (by omega)) hc
    · have e : Q B n q esc i = n := Q_end (by omega)
      rw [e] at hc ⊢
      rcases hc with hc | hc
      · subst hc; exact Q_end (by omega)
      · omega

/-- A script with something laid ahead of it. -/
theorem Q_shift {x m : Nat} : ∀ (d j : Nat), m ≤ j + d → Q (fun j => B (x + j)) m q esc j + x = Q B (x + m) q esc (x + j) := by
  intro d
  induction d with
  | zero => intro j h; rw [Q_end (by omega), Q_end (by omega)]; omega
  | succ d ih =>
    intro j h
    by_cases hj : j < m
    · rw [Q_step hj, Q_step (show x + j < x + m by omega)]
      have e1 := ih (j + 1) (by omega)
      have e2 := ih (j + 2) (by omega)
      rw [show x + j + 1 = x + (j + 1) from by omega, show x + j + 2 = x + (j + 2) from by omega, ← e1, ← e2]
      have e3 : (x + (j + 1) < x + m ∧ B (x + (j + 1)) = q) ↔ (j + 1 < m ∧ B (x + (j + 1)) = q) := by
        constructor
        · rintro ⟨a, b⟩; exact ⟨by omega, b⟩
        · rintro ⟨a, b⟩; exact ⟨by omega, b⟩
      by_cases h92 : B (x + j) = 92
      · rw [if_pos h92, if_pos h92]
        split <;> rfl
      · rw [if_neg h92, if_neg h92]
        by_cases hq : B (x + j) = q
        · rw [if_pos hq, if_pos hq]
          by_cases hq2 : j + 1 < m ∧ B (x + (j + 1)) = q
          · rw [if_pos hq2, if_pos (e3.2 hq2)]
          · rw [if_neg hq2, if_neg (fun h => hq2 (e3.1 h))]; omega
        · rw [if_neg hq, if_neg hq]
    · rw [Q_end (by omega), Q_end (by omega)]; omega

/-! ### the model by runs -/
/-- A run of quotes from i to k: an odd number of them ends the literal, an even one does not. -/
theorem Q_run {k : Nat} (hkn : k ≤ n) (hend : ¬ (k < n ∧ B k = q)) (h92 : q ≠ 92) : ∀ (c i : Nat), i + c = k → (∀ j, i ≤ j → j < k → B j = q) →
    (c % 2 = 1 → Q B n q esc i = k) ∧ (c % 2 = 0 → Q B n q esc i = Q B n q esc k)
  | 0, i, h, _ => ⟨fun h => by omega, fun _ => by rw [show i = k by omega]⟩
  | 1, i, h, hr => ⟨fun _ => by
      have e := Q_ret (B := B) (n := n) (q := q) (esc := esc) (i := i) (by omega) (by rw [hr i (Nat.le_refl _) (by omega)]; exact h92) (hr i (Nat.le_refl _) (by omega)) (by rw [show i + 1 = k by omega]; exact hend)
      omega, fun h => by omega⟩
  | c + 2, i, h, hr => by
    have ih := Q_run hkn hend h92 c (i + 2) (by omega) (fun j h1 h2 => hr j (by omega) h2)
    have e := Q_two (B := B) (n := n) (q := q) (esc := esc) (i := i) (by omega) (by rw [hr i (Nat.le_refl _) (by omega)]; exact h92) (hr i (Nat.le_refl _) (by omega)) (hr (i + 1) (by omega) (by omega))
    rw [e]
    exact ⟨fun h => ih.1 (by omega), fun h => ih.2 (by omega)⟩

/-- Where quotedEnd stands when the model stands at j with so many backslashes right before it. -/
def at_ (esc : Bool) (j bs : Nat) : Nat := if esc = true ∧ bs % 2 = 1 then j + 1 else j

theorem at_bs {j bs : Nat} (h : j < n) (hb : B j = 92) : Q B n q esc (at_ esc j bs) = Q B n q esc (at_ esc (j + 1) (bs + 1)) := by
  unfold at_
  cases he : esc
  · simp only [Bool.false_eq_true, false_and, if_false]
    exact Q_bs_raw h hb rfl
  · by_cases hp : bs % 2 = 1
    · rw [if_pos ⟨rfl, hp⟩, if_neg (fun hh => by have := hh.2; omega)]
    · rw [if_neg (fun hh => hp hh.2), if_pos ⟨rfl, by omega⟩]
      exact Q_bs_esc h hb rfl
theorem at_other {j bs : Nat} (h : j < n) (hb : B j ≠ 92) (hq : B j ≠ q) : Q B n q esc (at_ esc j bs) = Q B n q esc (at_ esc (j + 1) 0) := by
  have e0 : at_ esc (j + 1) 0 = j + 1 := by unfold at_; rw [if_neg (fun hh => by have := hh.2; omega)]
  rw [e0]
  unfold at_
  by_cases hp : esc = true ∧ bs % 2 = 1
  · rw [if_pos hp]
  · rw [if_neg hp]; exact Q_other h hb hq
theorem at_run {j k bs c : Nat} (hkn : k ≤ n) (hend : ¬ (k < n ∧ B k = q)) (h92 : q ≠ 92) (hr : ∀ i, j ≤ i → i < k → B i = q) (hc : at_ esc j bs + c = k) :
    (c % 2 = 1 → Q B n q esc (at_ esc j bs) = k) ∧ (c % 2 = 0 → Q B n q esc (at_ esc j bs) = Q B n q esc (at_ esc k 0)) := by
  have e0 : at_ esc k 0 = k := by unfold at_; rw [if_neg (fun hh => by have := hh.2; omega)]
  rw [e0]
  have hge : j ≤ at_ esc j bs := by unfold at_; split <;> omega
  exact Q_run hkn hend h92 c _ hc (fun i h1 h2 => hr i (by omega) h2)
theorem at_end {j bs : Nat} (h : n ≤ j) : Q B n q esc (at_ esc j bs) = n := by
  apply Q_end
  unfold at_
  split <;> omega
theorem at_zero (j : Nat) : at_ esc j 0 = j := by unfold at_; rw [if_neg (fun hh => by have := hh.2; omega)]
end
end Go.Proofs.Qxb6630790a.Plain
