import Derived.Test.Qxb6630826aRank
namespace Go.Proofs.Qxb6630826a
open Go.RowKit
set_option linter.unusedVariables false

set_option maxHeartbeats 2000000 in
set_option maxRecDepth 100000 in
/-- nmSameMembers over two lists of the same members. -/
theorem same11 (b off n c b' off' c' : Nat) (M : Nat → ByteArray × ByteArray × Int) (w : World) (hn : n ≤ 4096) (hc : Mems w b off n M) (hc' : Mems w b' off' n M) :
    Calls Try.prog 11 #[.slice (some ⟨b, off, none⟩) n c, .slice (some ⟨b', off', none⟩) n c'] w fun e w' => e = .returned (.bool true) ∧ ∃ d, w' = w.drewN d := by
  have HC : Aside (Mems w b off n M) := hc
  have HC' : Aside (Mems w b' off' n M) := hc'
  clear hc hc'
  go_enter Try.func11, Try.ntmps11
  go_wp2
  go_loopw [5] (fun v wr => ∃ k d : Nat, k ≤ n ∧ v = .int .i64 k ∧ wr = w.drewN d) (fun v _ => n - (intOf v).toNat)
  case atStart => exact ⟨0, 0, Nat.zero_le _, rfl, rfl⟩
  case round =>
    obtain ⟨k, d, hk, rfl, rfl⟩ := hrel
    by_cases hlt : k < n
    · obtain ⟨a0, a1, a2⟩ := HC.out k hlt
      obtain ⟨b0, b1, b2⟩ := HC'.out k hlt
      have hki : (k : Int) < (n : Int) := by omega
      have hneq := fun w => neq34 (M k).1 (M k).2.1 (M k).2.2 w
      have hm34 : Try.prog.eqGuardType Try.prog.depth 34 = false := by kernel_rfl
      go_wp2
      go_quiet (fail)
      go_wp2
      go_roundw
      case rel => exact ⟨k + 1, _, by omega, by go_num, rfl⟩
      case measure => simp [intOf]; omega
    · go_wp2
      go_ret
      exact ⟨rfl, d, rfl⟩

theorem ba_ext {a b : ByteArray} (h : a.toList = b.toList) : a = b := by
  rw [ByteArray.toList_eq, ByteArray.toList_eq] at h
  obtain ⟨⟨x⟩⟩ := a
  obtain ⟨⟨y⟩⟩ := b
  simp at h
  subst h
  rfl

/-- The list turned at k. -/
def rotM (M : Nat → ByteArray × ByteArray × Int) (n k j : Nat) : ByteArray × ByteArray × Int := if j < n - k then M (k + j) else M (j - (n - k))

theorem tab_map {α β : Type} (M : Nat → α) (f : α → β) (n : Nat) : Plain.tab (fun j => f (M j)) n = (Plain.tab M n).map f := by simp [Plain.tab]

/-- From the turned list come the same members. -/
theorem sameAB {M A B : Nat → ByteArray × ByteArray × Int} {n k : Nat} (hd : Dist M n) (hk : k ≤ n) (hpA : (Plain.tab A n).Perm (Plain.tab (fun j => voter (M j)) n)) (hsA : Plain.Sorted ltM (Plain.tab A n))
    (hpB : (Plain.tab B n).Perm (Plain.tab (fun j => voter (rotM M n k j)) n)) (hsB : Plain.Sorted ltM (Plain.tab B n)) (j : Nat) (hj : j < n) : B j = A j := by
  have hr : (Plain.tab (rotM M n k) n).Perm (Plain.tab M n) := Plain.tab_rot M n k hk _ (fun j hj => by simp [rotM, hj]) (fun j h1 h2 => by simp [rotM, Nat.not_lt.2 h1])
  have hlm : (Plain.tab (fun j => voter (M j)) n).Perm (Plain.tab (fun j => voter (rotM M n k j)) n) := by
    rw [tab_map M voter, tab_map (rotM M n k) voter]
    exact (hr.map voter).symm
  have e := Plain.unique irrM triM hlm hpA hsA hpB hsB (dist_pairwise hd)
  have e1 := Plain.tab_get A n j hj
  rw [e, Plain.tab_get B n j hj] at e1
  injection e1

theorem from_voter {M A : Nat → ByteArray × ByteArray × Int} {n : Nat} (hpA : (Plain.tab A n).Perm (Plain.tab (fun j => voter (M j)) n)) (j : Nat) (hj : j < n) : ∃ i, i < n ∧ A j = voter (M i) := by
  have h := hpA.mem_iff.1 (Plain.tab_mem A n j hj)
  unfold Plain.tab at h
  obtain ⟨i, hi, e⟩ := List.mem_map.1 h
  exact ⟨i, List.mem_range.1 hi, e.symm⟩

/-- Made again from what came out: the same. -/
theorem sameAC {M A C : Nat → ByteArray × ByteArray × Int} {n : Nat} (hd : Dist M n) (hpA : (Plain.tab A n).Perm (Plain.tab (fun j => voter (M j)) n)) (hsA : Plain.Sorted ltM (Plain.tab A n))
    (hpC : (Plain.tab C n).Perm (Plain.tab (fun j => voter (A j)) n)) (hsC : Plain.Sorted ltM (Plain.tab C n)) (j : Nat) (hj : j < n) : C j = A j := by
  have ev : Plain.tab (fun j => voter (A j)) n = Plain.tab A n := by
    unfold Plain.tab
    apply List.map_congr_left
    intro i hi
    obtain ⟨q, _, e⟩ := from_voter hpA i (List.mem_range.1 hi)
    rw [e]; rfl
  rw [ev] at hpC
  have e := Plain.unique irrM triM hpA.symm hpA hsA hpC hsC (dist_pairwise hd)
  have e1 := Plain.tab_get A n j hj
  rw [e, Plain.tab_get C n j hj] at e1
  injection e1

/-- The least of the first i ids. -/
def Least (M : Nat → ByteArray × ByteArray × Int) (i : Nat) (x : ByteArray) : Prop := (∃ q, q < i ∧ x = (M q).1) ∧ ∀ j, j < i → lessB (M j).1 x = false

theorem least_zero (M : Nat → ByteArray × ByteArray × Int) : Least M 1 (M 0).1 :=
  ⟨⟨0, by omega, rfl⟩, fun j hj => by obtain rfl : j = 0 := by omega
                                      exact Plain.bl_irrefl _⟩

theorem least_keep {M : Nat → ByteArray × ByteArray × Int} {i : Nat} {x : ByteArray} (h : Least M i x) (hl : lessB (M i).1 x = false) : Least M (i + 1) x := by
  obtain ⟨⟨q, hq, e⟩, ha⟩ := h
  refine ⟨⟨q, by omega, e⟩, fun j hj => ?_⟩
  by_cases h : j = i
  · subst h; exact hl
  · exact ha j (by omega)

theorem least_take {M : Nat → ByteArray × ByteArray × Int} {i : Nat} {x : ByteArray} (h : Least M i x) (hl : lessB (M i).1 x = true) : Least M (i + 1) (M i).1 := by
  obtain ⟨⟨q, hq, e⟩, ha⟩ := h
  refine ⟨⟨i, by omega, rfl⟩, fun j hj => ?_⟩
  by_cases h : j = i
  · subst h; exact Plain.bl_irrefl _
  · cases h1 : lessB (M j).1 (M i).1
    · rfl
    · have h2 : lessB (M j).1 x = true := Plain.bl_trans _ _ _ h1 hl
      rw [ha j (by omega)] at h2
      cases h2

/-- The first member that came out bears the least id. -/
theorem leastA {M A : Nat → ByteArray × ByteArray × Int} {n : Nat} {x : ByteArray} (hn : 1 ≤ n) (hpA : (Plain.tab A n).Perm (Plain.tab (fun j => voter (M j)) n)) (hsA : Plain.Sorted ltM (Plain.tab A n)) (h : Least M n x) : (A 0).1 = x := by
  obtain ⟨⟨q, hq, rfl⟩, ha⟩ := h
  obtain ⟨i, hi, e⟩ := from_voter hpA 0 (by omega)
  have h1 : lessB (A 0).1 (M q).1 = false := by rw [e]; exact ha i hi
  have h2 : lessB (M q).1 (A 0).1 = false := by
    have hm := hpA.mem_iff.2 (Plain.tab_mem (fun j => voter (M j)) n q hq)
    unfold Plain.tab at hm
    obtain ⟨t, ht, et⟩ := List.mem_map.1 hm
    have ht := List.mem_range.1 ht
    have e3 : lessB (M q).1 (A 0).1 = ltM (A t) (A 0) := by rw [et]; rfl
    rw [e3]
    by_cases h0 : t = 0
    · subst h0; exact irrM _
    · exact hsA 0 t _ _ (by omega) (Plain.tab_get A n 0 (by omega)) (Plain.tab_get A n t ht)
  exact ba_ext (Plain.bl_tri _ _ h1 h2)
end Go.Proofs.Qxb6630826a
