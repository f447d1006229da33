import Derived.Test.Qxb6630730aMake
namespace Go.Proofs.Qxb6630730a
open Go.RowKit

/-- ZZnewReadView: the five fields, one to one. -/
theorem new12 (c : Int) (a : Option Addr) (n cap : Nat) (low next : Int) (u : Bool) (w : World) :
    Calls Try.prog 12 #[.int .u64 c, .slice a n cap, .int .u64 low, .int .u64 next, .bool u] w fun e w' =>
      e = .returned (.agg #[.int .u64 c, .slice a n cap, .int .u64 low, .int .u64 next, .bool u]) ∧ w' = w.alloc (.cells #[.int .u64 c, .slice a n cap, .int .u64 low, .int .u64 next, .bool u] 29) := by
  go_enter Try.func12, Try.ntmps12
  go_wp2
  exact bodyPost_ret (v := .agg #[.int .u64 c, .slice a n cap, .int .u64 low, .int .u64 next, .bool u]) (by simp [results, Try.results12, go_sem]) rfl ⟨rfl, rfl⟩

theorem bcell {W w1 : World} (hb : Below W.heap.size W w1) : (∀ b o, b < W.heap.size → w1.cell? ⟨b, o, none⟩ = W.cell? ⟨b, o, none⟩) ∧ (∀ b o, b < W.heap.size → w1.frozen? ⟨b, o, none⟩ = W.frozen? ⟨b, o, none⟩) :=
  ⟨fun b o h => hb.cell (p := ⟨b, o, none⟩) h, fun b o h => hb.frozen (p := ⟨b, o, none⟩) h⟩

set_option maxHeartbeats 1000000 in
/-- zzView. -/
theorem view7 (c : Int) (g n cap : Nat) (next y : Int) (u : Bool) (w : World) (hn : n ≤ 65536) (hg : g < w.heap.size) (hc : 0 < n → w.cell? ⟨g, 0, none⟩ = some (.int .u64 y)) :
    Calls Try.prog 7 #[.int .u64 c, .slice (some ⟨g, 0, none⟩) n cap, .int .u64 next, .bool u] w fun e w' =>
      e = .returned (.agg #[.int .u64 c, .slice (some ⟨g, 0, none⟩) n cap, .int .u64 (if 0 < n then y else next), .int .u64 next, .bool u]) ∧ Below w.heap.size w w' := by
  by_cases h0 : 0 < n
  · rw [if_pos h0]
    have ck := hc h0
    have hn0 : (0 : Int) < (n : Int) := by omega
    clear hc
    go_enter Try.func7, Try.ntmps7
    go_wp2_with (go_at_call 12; refine (new12 _ _ _ _ _ _ _ _).mono ?_; rintro e w1 ⟨rfl, rfl⟩)
    refine bodyPost_ret (v := .agg #[.int .u64 c, .slice (some ⟨g, 0, none⟩) n cap, .int .u64 y, .int .u64 next, .bool u]) (by simp [results, Try.results7, go_sem]) rfl ⟨rfl, ?_⟩
    exact ((Below.refl _ _).alloc (Nat.le_refl _) _).alloc (by simp) _
  · rw [if_neg h0]
    have hn0 : ¬ (0 : Int) < (n : Int) := by omega
    clear hc
    go_enter Try.func7, Try.ntmps7
    go_wp2_with (go_at_call 12; refine (new12 _ _ _ _ _ _ _ _).mono ?_; rintro e w1 ⟨rfl, rfl⟩)
    refine bodyPost_ret (v := .agg #[.int .u64 c, .slice (some ⟨g, 0, none⟩) n cap, .int .u64 next, .int .u64 next, .bool u]) (by simp [results, Try.results7, go_sem]) rfl ⟨rfl, ?_⟩
    exact ((Below.refl _ _).alloc (Nat.le_refl _) _).alloc (by simp) _

theorem lt_le {l : List Int} (h : l.Pairwise (· < ·)) : l.Pairwise (· ≤ ·) := by
  induction l with
  | nil => exact List.Pairwise.nil
  | cons a r ih =>
    have h' := List.pairwise_cons.1 h
    exact List.pairwise_cons.2 ⟨fun x hx => by have := h'.1 x hx; omega, ih h'.2⟩

set_option maxHeartbeats 1000000 in
/-- Sees. -/
theorem sees9 (c low next x : Int) (u : Bool) (g cap : Nat) (ids : List Int) (w : World) (hl : ids.length ≤ 65536) (hg : g < w.heap.size)
    (hc : ∀ j, j < ids.length → w.cell? ⟨g, 0 + j, none⟩ = some (.int .u64 (ids.getD j 0))) (hs : ids.Pairwise (· < ·)) :
    Calls Try.prog 9 #[.agg #[.int .u64 c, .slice (some ⟨g, 0, none⟩) ids.length cap, .int .u64 low, .int .u64 next, .bool u], .int .u64 x] w fun e w' =>
      e = .returned (.bool (Plain.sees c ids low next u x)) ∧ ∃ q, w' = (w.alloc (.cells #[.int .u64 c, .slice (some ⟨g, 0, none⟩) ids.length cap, .int .u64 low, .int .u64 next, .bool u] 29)).drewN q := by
  have HS : Aside (∀ W : World, (∀ j, j < ids.length → W.cell? ⟨g, 0 + j, none⟩ = some (.int .u64 (ids.getD j 0))) → Calls Try.prog 13 #[.slice (some ⟨g, 0, none⟩) ids.length cap, .int .u64 x] W fun e w' => e = .returned (.tuple #[.int .i64 (ids.countP (· < x) : Nat), .bool (ids.contains x)]) ∧ ∃ q, w' = W.drewN q) := by
    intro W hW
    have h := search13 g 0 ids.length cap ids x W (Nat.le_refl _) (by omega) hW (by rw [List.take_length]; exact lt_le hs)
    rw [List.take_length] at h
    exact h
  have HC : Aside (∀ j, j < ids.length → w.cell? ⟨g, 0 + j, none⟩ = some (.int .u64 (ids.getD j 0))) := hc
  clear hc hs
  cases u
  · by_cases h1 : x = c
    · subst h1
      rw [show Plain.sees x ids low next false x = true from by simp [Plain.sees]]
      go_enter Try.func9, Try.ntmps9
      go_wp2
      go_ret
      exact ⟨rfl, 0, rfl⟩
    · have h1' : (x == c) = false := beq_eq_false_iff_ne.2 h1
      by_cases h2 : x < low
      · rw [show Plain.sees c ids low next false x = true from by simp [Plain.sees, h2]]
        go_enter Try.func9, Try.ntmps9
        go_wp2
        go_ret
        exact ⟨rfl, 0, rfl⟩
      · by_cases h3 : x < next
        · have h4 : Aside (Plain.sees c ids low next false x = !(ids.contains x)) := by simp [Aside, Plain.sees, h1, h2, h3]
          rw [h4.out]
          clear h4
          generalize ids.contains x = r at HS ⊢
          go_enter Try.func9, Try.ntmps9
          go_wp2_with fail
          refine (HS.out _ ?_).mono ?_
          · intro j hj
            simpa [World.cell?_alloc_past, hg] using HC.out j hj
          rintro e w1 ⟨rfl, q, rfl⟩
          go_wp2
          go_ret
          exact ⟨rfl, _, rfl⟩
        · have h4 : Aside (Plain.sees c ids low next false x = false) := by simp [Aside, Plain.sees, h1, h2, h3]
          rw [h4.out]
          go_enter Try.func9, Try.ntmps9
          go_wp2
          go_ret
          exact ⟨rfl, 0, rfl⟩
  · rw [show Plain.sees c ids low next true x = true from by simp [Plain.sees]]
    go_enter Try.func9, Try.ntmps9
    go_wp2
    go_ret
    exact ⟨rfl, 0, rfl⟩
end Go.Proofs.Qxb6630730a
