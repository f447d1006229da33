import Derived.Test.Qxb6630826aNewA
namespace Go.Proofs.Qxb6630826a
open Go.RowKit
set_option linter.unusedVariables false

theorem InM.cell {w wr : World} {V gc cap n k : Nat} {M : Nat → ByteArray × ByteArray × Int} (h : InM w wr V gc cap n k M) (t : Nat) (ht : t < n * 3) : (∃ v, wr.cell? ⟨gc, t, none⟩ = some v) ∧ wr.frozen? ⟨gc, t, none⟩ = false := by
  obtain ⟨xs, ho, _⟩ := h.own
  refine ⟨⟨xs[t]'(by rw [ho.1]; exact ht), ?_⟩, ho.frozenAt t⟩
  rw [ho.cellAt t ht]
  exact List.getElem?_eq_getElem _

theorem InM.step {w wr : World} {V gc cap n k : Nat} {M : Nat → ByteArray × ByteArray × Int} (h : InM w wr V gc cap n k M) (hk : k < n) : InM w (wr.setCell ⟨gc, k * 3 + 2, none⟩ (.int .i64 0)) V gc cap n (k + 1) M := by
  obtain ⟨xs, ho, hx⟩ := h.own
  obtain ⟨o1, g1⟩ := ho.stored (k * 3 + 2) (.int .i64 0)
  have hl : xs.length = n * 3 := ho.1
  have hne : (some V : Option Nat) ≠ some gc := fun e => h.ne (by simpa using e)
  have hg := h.hg
  have nb : ∀ b : Nat, (⟨gc, k * 3 + 2, none⟩ : Addr) ≠ ⟨w.heap.size, b, none⟩ := fun b e => by simp only [Addr.mk.injEq] at e; omega
  refine ⟨g1.cell h.c0 hne, g1.cell h.c1 hne, g1.cell h.c2 hne, g1.cell h.c3 hne, fun j hj => ?_, ⟨_, o1, fun j hj => ?_⟩, h.hV, h.hg, h.ne, h.bel.setCell (by show w.heap.size ≤ gc; omega) _⟩
  · rw [World.cell?_setCell_other _ _ _ _ (nb j), World.frozen?_setCell]; exact h.r j hj
  · obtain ⟨h1, h2, z, h3, h4⟩ := hx j hj
    refine ⟨by rw [List.getElem?_set_ne (by omega)]; exact h1, by rw [List.getElem?_set_ne (by omega)]; exact h2, ?_⟩
    by_cases e : j = k
    · subst e
      exact ⟨0, by rw [List.getElem?_set_self (by omega)], fun _ => rfl⟩
    · exact ⟨z, by rw [List.getElem?_set_ne (by omega)]; exact h3, fun h => h4 (by omega)⟩

theorem InM.mems {w wr : World} {V gc cap n : Nat} {M : Nat → ByteArray × ByteArray × Int} (h : InM w wr V gc cap n n M) : Mems wr gc 0 n (fun j => voter (M j)) := by
  obtain ⟨xs, ho, hx⟩ := h.own
  intro j hj
  obtain ⟨h1, h2, z, h3, h4⟩ := hx j hj
  rw [Nat.zero_add]
  have e := h4 hj
  subst e
  exact ⟨(ho.cellAt _ (by omega)).trans h1, (ho.cellAt _ (by omega)).trans h2, (ho.cellAt _ (by omega)).trans h3⟩

theorem InM.lt {w wr : World} {V gc cap n k : Nat} {M : Nat → ByteArray × ByteArray × Int} (h : InM w wr V gc cap n k M) : gc < wr.heap.size := by
  obtain ⟨xs, ho, _⟩ := h.own
  exact (ho.lt _ rfl).2

/-- Behind the sort: the variable and the result's own variable are as they were. -/
theorem afterSort {w wr w5 : World} {V gc cap n k : Nat} {M : Nat → ByteArray × ByteArray × Int} (h : InM w wr V gc cap n k M) (hg : wr.grownBy w5 (some gc)) :
    w5.cell? ⟨V, 0, none⟩ = some (.int .u64 1) ∧ w5.cell? ⟨V, 1, none⟩ = some (.string (M 0).1) ∧ w5.cell? ⟨V, 2, none⟩ = some (.slice (some ⟨gc, 0, none⟩) n cap) ∧ w5.cell? ⟨V, 3, none⟩ = some (.slice none 0 0) ∧
      (∃ v, w5.cell? ⟨w.heap.size, 0, none⟩ = some v) ∧ (∃ v, w5.cell? ⟨w.heap.size, 1, none⟩ = some v) ∧ (∃ v, w5.cell? ⟨w.heap.size, 2, none⟩ = some v) ∧ (∃ v, w5.cell? ⟨w.heap.size, 3, none⟩ = some v) ∧
      w5.frozen? ⟨w.heap.size, 0, none⟩ = false ∧ w5.frozen? ⟨w.heap.size, 1, none⟩ = false ∧ w5.frozen? ⟨w.heap.size, 2, none⟩ = false ∧ w5.frozen? ⟨w.heap.size, 3, none⟩ = false ∧ Below w.heap.size w w5 ∧ gc < w5.heap.size := by
  have hne : (some V : Option Nat) ≠ some gc := fun e => h.ne (by simpa using e)
  have hgg := h.hg
  have hne2 : (some w.heap.size : Option Nat) ≠ some gc := fun e => by simp at e; omega
  have hsz : w.heap.size < wr.heap.size := by
    obtain ⟨v, hv⟩ := (h.r 0 (by omega)).1
    exact World.block_lt_of_cell? _ _ hv
  have rc : ∀ j, j < 4 → (∃ v, w5.cell? ⟨w.heap.size, j, none⟩ = some v) ∧ w5.frozen? ⟨w.heap.size, j, none⟩ = false := fun j hj => by
    obtain ⟨⟨v, hv⟩, hf⟩ := h.r j hj
    exact ⟨⟨v, hg.cell hv hne2⟩, (World.frozen?_of_block (a := ⟨w.heap.size, j, none⟩) (hg.block _ hsz hne2)).trans hf⟩
  exact ⟨hg.cell h.c0 hne, hg.cell h.c1 hne, hg.cell h.c2 hne, hg.cell h.c3 hne, (rc 0 (by omega)).1, (rc 1 (by omega)).1, (rc 2 (by omega)).1, (rc 3 (by omega)).1, (rc 0 (by omega)).2, (rc 1 (by omega)).2, (rc 2 (by omega)).2, (rc 3 (by omega)).2,
    h.bel.grown hg (by omega) (fun j hj => by cases hj; omega), Nat.lt_of_lt_of_le h.lt hg.size⟩

/-- The result laid into its variable. -/
theorem putResult {w w5 : World} {gc n : Nat} {M' : Nat → ByteArray × ByteArray × Int} {x y z v y0 y1 y2 y3 : Value} (g0 : w5.cell? ⟨w.heap.size, 0, none⟩ = some y0) (g1 : w5.cell? ⟨w.heap.size, 1, none⟩ = some y1) (g2 : w5.cell? ⟨w.heap.size, 2, none⟩ = some y2) (g3 : w5.cell? ⟨w.heap.size, 3, none⟩ = some y3)
    (hb : Below w.heap.size w w5) (hm : Mems w5 gc 0 n M') (hl : gc < w5.heap.size) (hgw : gc ≠ w.heap.size) :
    let W6 := (((w5.setCell ⟨w.heap.size, 0, none⟩ x).setCell ⟨w.heap.size, 1, none⟩ y).setCell ⟨w.heap.size, 2, none⟩ z).setCell ⟨w.heap.size, 3, none⟩ v
    W6.cell? ⟨w.heap.size, 0, none⟩ = some x ∧ W6.cell? ⟨w.heap.size, 1, none⟩ = some y ∧ W6.cell? ⟨w.heap.size, 2, none⟩ = some z ∧ W6.cell? ⟨w.heap.size, 3, none⟩ = some v ∧ Below w.heap.size w W6 ∧ Mems W6 gc 0 n M' ∧ gc < W6.heap.size := by
  have ne : ∀ a b : Nat, a ≠ b → (⟨w.heap.size, a, none⟩ : Addr) ≠ ⟨w.heap.size, b, none⟩ := fun a b h e => h (by injection e)
  have nb : ∀ a b : Nat, (⟨w.heap.size, a, none⟩ : Addr) ≠ ⟨gc, b, none⟩ := fun a b e => hgw (by injection e with e; exact e.symm)
  refine ⟨?_, ?_, ?_, ?_, ?_, fun j hj => ?_, by simpa using hl⟩
  · rw [World.cell?_setCell_other _ _ _ _ (ne 3 0 (by decide)), World.cell?_setCell_other _ _ _ _ (ne 2 0 (by decide)), World.cell?_setCell_other _ _ _ _ (ne 1 0 (by decide))]
    exact World.cell?_setCell_same _ _ _ g0
  · rw [World.cell?_setCell_other _ _ _ _ (ne 3 1 (by decide)), World.cell?_setCell_other _ _ _ _ (ne 2 1 (by decide))]
    exact World.cell?_setCell_same _ _ _ (by rw [World.cell?_setCell_other _ _ _ _ (ne 0 1 (by decide))]; exact g1)
  · rw [World.cell?_setCell_other _ _ _ _ (ne 3 2 (by decide))]
    exact World.cell?_setCell_same _ _ _ (by rw [World.cell?_setCell_other _ _ _ _ (ne 1 2 (by decide)), World.cell?_setCell_other _ _ _ _ (ne 0 2 (by decide))]; exact g2)
  · exact World.cell?_setCell_same _ _ _ (by rw [World.cell?_setCell_other _ _ _ _ (ne 2 3 (by decide)), World.cell?_setCell_other _ _ _ _ (ne 1 3 (by decide)), World.cell?_setCell_other _ _ _ _ (ne 0 3 (by decide))]; exact g3)
  · exact (((hb.setCell (Nat.le_refl _) _).setCell (Nat.le_refl _) _).setCell (Nat.le_refl _) _).setCell (Nat.le_refl _) _
  · have e : ∀ o, ((((w5.setCell ⟨w.heap.size, 0, none⟩ x).setCell ⟨w.heap.size, 1, none⟩ y).setCell ⟨w.heap.size, 2, none⟩ z).setCell ⟨w.heap.size, 3, none⟩ v).cell? ⟨gc, o, none⟩ = w5.cell? ⟨gc, o, none⟩ := fun o => by
      rw [World.cell?_setCell_other _ _ _ _ (nb 3 o), World.cell?_setCell_other _ _ _ _ (nb 2 o), World.cell?_setCell_other _ _ _ _ (nb 1 o), World.cell?_setCell_other _ _ _ _ (nb 0 o)]
    rw [e, e, e]
    exact hm j hj

set_option maxHeartbeats 4000000 in
set_option maxRecDepth 100000 in
theorem new9 (hsort : SortSaid) (b off n c : Nat) (M : Nat → ByteArray × ByteArray × Int) (w : World) (hb : b < w.heap.size) (hn1 : 1 ≤ n) (hn : n ≤ 4096) (hc : Mems w b off n M) :
    Calls Try.prog 9 #[.slice (some ⟨b, off, none⟩) n c] w fun e w' => ∃ (gc cap : Nat) (M' : Nat → ByteArray × ByteArray × Int), e = .returned (.agg #[.int .u64 1, .string (M 0).1, .slice (some ⟨gc, 0, none⟩) n cap, .slice none 0 0]) ∧
      (Plain.tab M' n).Perm (Plain.tab (fun j => voter (M j)) n) ∧ Plain.Sorted ltM (Plain.tab M' n) ∧ Mems w' gc 0 n M' ∧ gc < w'.heap.size ∧ Below w.heap.size w w' := by
  have HC : Aside (Mems w b off n M) := hc
  obtain ⟨c0, _, _⟩ := hc 0 (by omega)
  rw [Nat.zero_mul, Nat.add_zero] at c0
  have hn1i : (0 : Int) < (n : Int) := by omega
  clear hc
  go_enter Try.func9, Try.ntmps9
  go_upto_region 1 with (fail)
  go_cut [3] (fun t wr => ∃ V gc cap, t = .pointer (some ⟨V, 0, none⟩) ∧ InM w wr V gc cap n 0 M)
  case first =>
    go_region_with (go_at_call 12; refine (clone12j w b off n _ M _ hn1 hn hb HC.out (by first | exact below1 w _ | exact below2 w _ _)).mono ?_; rintro e w1 ⟨gc, cap, rfl, hgc, hown, hbel, hbw1, ck1, hc1, hf1⟩)
    all_goals
      clear hc1 hf1 ck1 hbw1
      go_wp2_with fail
      go_meet
      first | exact ⟨_, _, _, rfl, inA hgc hown hbel⟩ | exact ⟨_, _, _, rfl, inB hgc hown hbel⟩
  case rest =>
    obtain ⟨V, gc, cap, rfl, hI⟩ := hcut
    have c2 := hI.c2
    go_wp2
    go_loopw [15] (fun i wr => ∃ k : Nat, k ≤ n ∧ i = .int .i64 k ∧ InM w wr V gc cap n k M) (fun i _ => n - (intOf i).toNat)
    case atStart => exact ⟨0, Nat.zero_le _, rfl, hI⟩
    case round =>
      clear hI c2
      obtain ⟨k, hk, rfl, hI⟩ := hrel
      by_cases hlt : k < n
      · have c2 := hI.c2
        obtain ⟨⟨v2, r2⟩, s2⟩ := hI.cell (k * 3 + 2) (by omega)
        have hki : (k : Int) < (n : Int) := by omega
        have X : Aside (InM w (wr.setCell ⟨gc, k * 3 + 2, none⟩ (.int .i64 0)) V gc cap n (k + 1) M) := hI.step hlt
        clear hI
        go_wp2
        go_roundw
        case rel => exact ⟨k + 1, by omega, by go_num, X.out⟩
        case measure => simp [intOf]; omega
      · have e : n = k := by omega
        subst e
        have c2 := hI.c2
        go_wp2_with fail
        refine (hsort gc cap n (fun j => voter (M j)) wr hI.mems (fun t ht => (hI.cell t ht).2) hI.lt hn).mono ?_
        rintro e w5 ⟨rfl, M', hp, hs, hm, hg⟩
        obtain ⟨f0, f1, f2, f3, g0, g1, g2, g3, z0, z1, z2, z3, hb5, hl5⟩ := afterSort hI hg
        have HP : Aside ((Plain.tab M' n).Perm (Plain.tab (fun j => voter (M j)) n)) := hp
        have HS : Aside (Plain.Sorted ltM (Plain.tab M' n)) := hs
        have HM : Aside (Mems w5 gc 0 n M') := hm
        have hgw : gc ≠ w.heap.size := by have := hI.hg; omega
        clear hp hs hm hg hI c2
        obtain ⟨y0, g0⟩ := g0
        obtain ⟨y1, g1⟩ := g1
        obtain ⟨y2, g2⟩ := g2
        obtain ⟨y3, g3⟩ := g3
        go_wp2
        obtain ⟨q0, q1, q2, q3, qb, qm, ql⟩ := putResult (x := .int .u64 1) (y := .string (M 0).1) (z := .slice (some ⟨gc, 0, none⟩) n cap) (v := .slice none 0 0) g0 g1 g2 g3 hb5 HM.out hl5 hgw
        generalize (((w5.setCell ⟨w.heap.size, 0, none⟩ (.int .u64 1)).setCell ⟨w.heap.size, 1, none⟩ (.string (M 0).1)).setCell ⟨w.heap.size, 2, none⟩ (.slice (some ⟨gc, 0, none⟩) n cap)).setCell ⟨w.heap.size, 3, none⟩ (.slice none 0 0) = W6 at q0 q1 q2 q3 qb qm ql ⊢
        exact bodyPost_ret (v := .agg #[.int .u64 1, .string (M 0).1, .slice (some ⟨gc, 0, none⟩) n cap, .slice none 0 0]) (by simp [results, Try.results9, go_sem, q0, q1, q2, q3]) rfl ⟨gc, cap, M', rfl, HP.out, HS.out, qm, ql, qb⟩
end Go.Proofs.Qxb6630826a
