/-
  THE PLAIN LAWS of seat b6630826a: where a sorted permutation of members with distinct ids puts each; the order of ids; no walk.
-/
import GoSem.Op.String
namespace Go.Proofs.Qxb6630826a.Plain

/-! ### the order of byte lists -/
theorem bl_irrefl : ∀ x : List UInt8, Op.bytesLess x x = false
  | [] => rfl
  | a :: x => by
    have h : ¬ a < a := fun h => by rw [UInt8.lt_iff_toNat_lt] at h; omega
    simp [Op.bytesLess, bl_irrefl x, h]
theorem bl_trans : ∀ x y z : List UInt8, Op.bytesLess x y = true → Op.bytesLess y z = true → Op.bytesLess x z = true
  | _, _, [], _, h => by simp [Op.bytesLess] at h
  | [], _, _ :: _, _, _ => by simp [Op.bytesLess]
  | _ :: _, [], _ :: _, h, _ => by simp [Op.bytesLess] at h
  | a :: x, b :: y, c :: z, h1, h2 => by
    simp only [Op.bytesLess, Bool.or_eq_true, Bool.and_eq_true, decide_eq_true_eq, beq_iff_eq, UInt8.lt_iff_toNat_lt] at h1 h2 ⊢
    rcases h1 with h1 | ⟨rfl, h1⟩
    · rcases h2 with h2 | ⟨rfl, h2⟩
      · exact Or.inl (by omega)
      · exact Or.inl h1
    · rcases h2 with h2 | ⟨rfl, h2⟩
      · exact Or.inl h2
      · exact Or.inr ⟨rfl, bl_trans x y z h1 h2⟩
theorem bl_tri : ∀ x y : List UInt8, Op.bytesLess x y = false → Op.bytesLess y x = false → x = y
  | [], [], _, _ => rfl
  | [], _ :: _, h, _ => by simp [Op.bytesLess] at h
  | _ :: _, [], _, h => by simp [Op.bytesLess] at h
  | a :: x, b :: y, h1, h2 => by
    simp only [Op.bytesLess, Bool.or_eq_false_iff, Bool.and_eq_false_iff, decide_eq_false_iff_not, beq_eq_false_iff_ne, UInt8.lt_iff_toNat_lt] at h1 h2
    have e : a = b := UInt8.toNat_inj.1 (by omega)
    subst e
    have g1 : Op.bytesLess x y = false := h1.2.resolve_left (fun h => h rfl)
    have g2 : Op.bytesLess y x = false := h2.2.resolve_left (fun h => h rfl)
    rw [bl_tri x y g1 g2]
theorem bl_ntrans (x y z : List UInt8) (h1 : Op.bytesLess x y = false) (h2 : Op.bytesLess y z = false) : Op.bytesLess x z = false := by
  cases h : Op.bytesLess x z
  · rfl
  · cases h3 : Op.bytesLess y x
    · have e := bl_tri x y h1 h3
      subst e
      rw [h] at h2; cases h2
    · have := bl_trans y x z h3 h
      rw [this] at h2; cases h2

/-! ### sorted permutations -/
section
variable {α β : Type} (K : α → β) (lt : α → α → Bool)

/-- No later one is less than an earlier one. -/
def Sorted (l : List α) : Prop := ∀ (i j : Nat) (x y : α), i < j → l[i]? = some x → l[j]? = some y → lt y x = false

variable {K lt}

/-- An element of a sorted permutation stands at the place equal to the number of elements below it. -/
theorem place (hir : ∀ x, lt x x = false) (htri : ∀ x y, lt x y = false → lt y x = false → K x = K y) {l l' : List α} (hp : l'.Perm l) (hs : Sorted lt l') (hd : l.Pairwise (fun a b => K a ≠ K b))
    {x : α} {p : Nat} (hx : l'[p]? = some x) : l.countP (fun y => lt y x) = p := by
  have hd' : l'.Pairwise (fun a b => K a ≠ K b) := (hp.pairwise_iff (fun h => h.symm)).2 hd
  rw [← hp.countP_eq]
  have hpl : p < l'.length := by
    rcases Nat.lt_or_ge p l'.length with h | h
    · exact h
    · rw [List.getElem?_eq_none h] at hx; cases hx
  have e1 : l'.countP (fun y => lt y x) = (l'.take p).countP (fun y => lt y x) + (l'.drop p).countP (fun y => lt y x) := by
    rw [← List.countP_append, List.take_append_drop]
  have e2 : (l'.take p).countP (fun y => lt y x) = p := by
    have : (l'.take p).countP (fun y => lt y x) = (l'.take p).length := by
      rw [List.countP_eq_length]
      intro a ha
      obtain ⟨i, hi, e⟩ := List.getElem_of_mem ha
      rw [List.length_take] at hi
      have hip : i < p := by omega
      have hia : l'[i]? = some a := by
        rw [← e, List.getElem_take, List.getElem?_eq_getElem]
      cases hlt : lt a x
      · have h2 := hs i p a x hip hia hx
        have hk := htri a x hlt h2
        have hne := List.pairwise_iff_getElem.1 hd' i p (by omega) hpl hip
        rw [List.getElem?_eq_getElem (by omega)] at hia
        rw [List.getElem?_eq_getElem hpl] at hx
        injection hia with hia
        injection hx with hx
        rw [hia, hx] at hne
        exact absurd hk hne
      · rfl
    rw [this, List.length_take]
    omega
  have e3 : (l'.drop p).countP (fun y => lt y x) = 0 := by
    rw [List.countP_eq_zero]
    intro a ha
    obtain ⟨i, hi, e⟩ := List.getElem_of_mem ha
    rw [List.length_drop] at hi
    have hia : l'[p + i]? = some a := by
      rw [← e, List.getElem_drop, List.getElem?_eq_getElem]
    rcases Nat.eq_zero_or_pos i with h0 | h0
    · subst h0
      rw [Nat.add_zero, hx] at hia
      injection hia with hia
      subst hia
      rw [hir]; simp
    · rw [hs p (p + i) x a (by omega) hx hia]; simp
  omega

/-- .. and so the place tells the element. -/
theorem placed (hir : ∀ x, lt x x = false) (htri : ∀ x y, lt x y = false → lt y x = false → K x = K y) {l l' : List α} (hp : l'.Perm l) (hs : Sorted lt l') (hd : l.Pairwise (fun a b => K a ≠ K b))
    {x : α} (hx : x ∈ l) : l'[l.countP (fun y => lt y x)]? = some x := by
  obtain ⟨p, hpl, e⟩ := List.getElem_of_mem (hp.mem_iff.2 hx)
  have hx' : l'[p]? = some x := by rw [← e]; exact List.getElem?_eq_getElem hpl
  rw [place hir htri hp hs hd hx']
  exact hx'

/-- Two sorted permutations of the same elements are one. -/
theorem unique (hir : ∀ x, lt x x = false) (htri : ∀ x y, lt x y = false → lt y x = false → K x = K y) {l m l' m' : List α} (hlm : l.Perm m) (hp : l'.Perm l) (hs : Sorted lt l') (hq : m'.Perm m) (ht : Sorted lt m') (hd : l.Pairwise (fun a b => K a ≠ K b)) :
    l' = m' := by
  have hd2 : m.Pairwise (fun a b => K a ≠ K b) := (hlm.pairwise_iff (fun h => h.symm)).1 hd
  have hlen : l'.length = m'.length := by rw [hp.length_eq, hlm.length_eq, hq.length_eq]
  apply List.ext_getElem? 
  intro p
  rcases Nat.lt_or_ge p l'.length with h | h
  · obtain ⟨x, hx⟩ : ∃ x, l'[p]? = some x := ⟨_, List.getElem?_eq_getElem h⟩
    have e1 := place hir htri hp hs hd hx
    have hxm : x ∈ m := hlm.mem_iff.1 (hp.mem_iff.1 (List.mem_of_getElem? hx))
    have e2 := placed hir htri hq ht hd2 hxm
    rw [← hlm.countP_eq, e1] at e2
    rw [hx, e2]
  · rw [List.getElem?_eq_none h, List.getElem?_eq_none (by omega)]
end

/-! ### a list out of its places -/
section
variable {α : Type}
def tab (M : Nat → α) (n : Nat) : List α := (List.range n).map M
theorem tab_length (M : Nat → α) (n : Nat) : (tab M n).length = n := by simp [tab]
theorem tab_get (M : Nat → α) (n j : Nat) (h : j < n) : (tab M n)[j]? = some (M j) := by simp [tab, h]
theorem tab_mem (M : Nat → α) (n j : Nat) (h : j < n) : M j ∈ tab M n := by
  unfold tab; exact List.mem_map.2 ⟨j, List.mem_range.2 h, rfl⟩
theorem tab_succ (M : Nat → α) (n : Nat) : tab M (n + 1) = tab M n ++ [M n] := by simp [tab, List.range_succ]
theorem tab_pairwise {R : α → α → Prop} (M : Nat → α) (n : Nat) (h : ∀ i, i < n → ∀ j, j < i → R (M j) (M i)) : (tab M n).Pairwise R := by
  rw [List.pairwise_iff_getElem]
  intro i j hi hj hij
  rw [tab_length] at hi hj
  have e1 : (tab M n)[i] = M i := by simp [tab]
  have e2 : (tab M n)[j] = M j := by simp [tab]
  rw [e1, e2]
  exact h j hj i hij

/-- How many of the first n satisfy f. -/
def cnt (f : Nat → Bool) : Nat → Nat
  | 0 => 0
  | n + 1 => if f n = true then cnt f n + 1 else cnt f n
theorem cnt_le (f : Nat → Bool) (n : Nat) : cnt f n ≤ n := by
  induction n with
  | zero => exact Nat.le_refl _
  | succ n ih => simp only [cnt]; split <;> omega
theorem cnt_tab (M : Nat → α) (g : α → Bool) (n : Nat) : (tab M n).countP g = cnt (fun j => g (M j)) n := by
  induction n with
  | zero => rfl
  | succ n ih =>
    rw [tab_succ, List.countP_append, ih]
    simp only [cnt]
    by_cases h : g (M n) = true
    · rw [if_pos h]; simp [h]
    · rw [if_neg h]; simp [h]

/-- A list turned at k. -/
theorem tab_rot (M : Nat → α) (n k : Nat) (hk : k ≤ n) (R : Nat → α) (h1 : ∀ j, j < n - k → R j = M (k + j)) (h2 : ∀ j, n - k ≤ j → j < n → R j = M (j - (n - k))) : (tab R n).Perm (tab M n) := by
  have e : tab R n = (tab M n).drop k ++ (tab M n).take k := by
    apply List.ext_getElem?
    intro j
    rw [List.getElem?_append, List.length_drop, tab_length]
    by_cases hj : j < n - k
    · rw [if_pos hj, List.getElem?_drop, tab_get R n j (by omega), tab_get M n (k + j) (by omega), h1 j hj]
    · rw [if_neg hj, List.getElem?_take]
      by_cases hjn : j < n
      · rw [if_pos (by omega), tab_get R n j hjn, tab_get M n _ (by omega), h2 j (by omega) hjn]
      · rw [if_neg (by omega), List.getElem?_eq_none (by rw [tab_length]; omega)]
  rw [e]
  have := (List.perm_append_comm (l₁ := (tab M n).drop k) (l₂ := (tab M n).take k))
  rw [List.take_append_drop] at this
  exact this
end
end Go.Proofs.Qxb6630826a.Plain
