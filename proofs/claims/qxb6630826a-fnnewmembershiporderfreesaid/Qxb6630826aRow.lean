import Derived.Test.Qxb6630826aGuard
import Derived.Laws.OwnMore
import Derived.WalkSmall
import Derived.WalkLawsBesides
import Derived.Sort.Grow
namespace Go.Proofs.Qxb6630826a
open Go.RowKit
set_option linter.unusedVariables false

theorem info34 : (Try.prog.info? 34).map (fun i => (i.zero, i.size, i.bytes)) = some (some (.agg #[.string ByteArray.empty, .string ByteArray.empty, .int .i64 0]), 3, 40) := by kernel_rfl

/-- The three cells of a member. -/
def enc (x : ByteArray × ByteArray × Int) : List Value := [.string x.1, .string x.2.1, .int .i64 x.2.2]

/-- A row of members made by the call, the first k of them filled. -/
structure Made (W : World) (g n k : Nat) (M : Nat → ByteArray × ByteArray × Int) : Prop where
  own : ∃ xs, W.ownsRow g 34 3 (.slice (some ⟨g, 0, none⟩) n n) n xs ∧ ∀ j, j < k → xs[j * 3]? = some (.string (M j).1) ∧ xs[j * 3 + 1]? = some (.string (M j).2.1) ∧ xs[j * 3 + 2]? = some (.int .i64 (M j).2.2)

theorem Made.cells {W : World} {g n k : Nat} {M : Nat → ByteArray × ByteArray × Int} (h : Made W g n k M) (j : Nat) (hj : j < n * 3) : (∃ v, W.cell? ⟨g, j, none⟩ = some v) ∧ W.frozen? ⟨g, j, none⟩ = false := by
  obtain ⟨xs, ho, _⟩ := h.own
  refine ⟨⟨xs[j]'(by rw [ho.1]; exact hj), ?_⟩, ho.frozenAt j⟩
  rw [ho.cellAt j hj]
  exact List.getElem?_eq_getElem _
theorem Made.mems {W : World} {g n : Nat} {M : Nat → ByteArray × ByteArray × Int} (h : Made W g n n M) : Mems W g 0 n M := by
  obtain ⟨xs, ho, hx⟩ := h.own
  intro j hj
  obtain ⟨h1, h2, h3⟩ := hx j hj
  rw [Nat.zero_add]
  exact ⟨(ho.cellAt _ (by omega)).trans h1, (ho.cellAt _ (by omega)).trans h2, (ho.cellAt _ (by omega)).trans h3⟩
theorem Made.lt {W : World} {g n k : Nat} {M : Nat → ByteArray × ByteArray × Int} (h : Made W g n k M) : g < W.heap.size := by
  obtain ⟨xs, ho, _⟩ := h.own
  exact (ho.lt _ rfl).2
theorem Made.store {W : World} {g n k : Nat} {M : Nat → ByteArray × ByteArray × Int} (h : Made W g n k M) (hk : k < n) :
    Made (((W.setCell ⟨g, k * 3, none⟩ (.string (M k).1)).setCell ⟨g, k * 3 + 1, none⟩ (.string (M k).2.1)).setCell ⟨g, k * 3 + 2, none⟩ (.int .i64 (M k).2.2)) g n (k + 1) M := by
  obtain ⟨xs, ho, hx⟩ := h.own
  have hl : xs.length = n * 3 := ho.1
  refine ⟨⟨_, ((((ho.stored (k * 3) (.string (M k).1)).1.stored (k * 3 + 1) (.string (M k).2.1)).1).stored (k * 3 + 2) (.int .i64 (M k).2.2)).1, fun j hj => ?_⟩⟩
  by_cases e : j = k
  · subst e
    refine ⟨?_, ?_, ?_⟩
    · rw [List.getElem?_set_ne (by omega), List.getElem?_set_ne (by omega), List.getElem?_set_self (by omega)]
    · rw [List.getElem?_set_ne (by omega), List.getElem?_set_self (by simp; omega)]
    · rw [List.getElem?_set_self (by simp; omega)]
  · obtain ⟨h1, h2, h3⟩ := hx j (by omega)
    refine ⟨?_, ?_, ?_⟩
    · rw [List.getElem?_set_ne (by omega), List.getElem?_set_ne (by omega), List.getElem?_set_ne (by omega)]; exact h1
    · rw [List.getElem?_set_ne (by omega), List.getElem?_set_ne (by omega), List.getElem?_set_ne (by omega)]; exact h2
    · rw [List.getElem?_set_ne (by omega), List.getElem?_set_ne (by omega), List.getElem?_set_ne (by omega)]; exact h3

set_option maxHeartbeats 2000000 in
/-- nmToCluster: a new slice of the same members. -/
theorem to8 (b off n c0 : Nat) (M : Nat → ByteArray × ByteArray × Int) (w : World) (hb : b < w.heap.size) (hn : n ≤ 4096) (hc : Mems w b off n M) :
    Calls Try.prog 8 #[.slice (some ⟨b, off, none⟩) n c0] w fun e w' => e = .returned (.slice (some ⟨w.heap.size, 0, none⟩) n n) ∧ Made w' w.heap.size n n M ∧ Below w.heap.size w w' := by
  obtain ⟨i0, hi, hz0, hz1, hz2⟩ := info_parts info34
  have HC : Aside (Mems w b off n M) := hc
  clear hc
  go_enter Try.func8, Try.ntmps8
  go_wp2_with (at_make; refine wpList_make_full _ rfl _ _ 24 rfl w.heap.size 34 i0 _ 3 Try.underlying24 hi hz0 hz1 _ _ _ _ n rfl rfl (by omega) (by omega) (by rw [hz2]; omega) (by unfold maxLen; omega) (Nat.le_refl _) ?_; intro w1 hown hgrow)
  have N0 : Made w1 w.heap.size n 0 M := ⟨⟨_, hown, fun j hj => absurd hj (Nat.not_lt_zero _)⟩⟩
  have B0 : Below w.heap.size w w1 := (Below.refl _ _).grown hgrow (Nat.le_refl _) (fun j hj => by cases hj)
  clear hown hgrow
  go_loopw [4] (fun i wr => ∃ k : Nat, k ≤ n ∧ i = .int .i64 k ∧ Made wr w.heap.size n k M ∧ Below w.heap.size w wr) (fun i _ => n - (intOf i).toNat)
  case atStart => exact ⟨0, Nat.zero_le _, rfl, N0, B0⟩
  case round =>
    obtain ⟨k, hk, rfl, hM, hB⟩ := hrel
    by_cases hlt : k < n
    · obtain ⟨ck, dk, ek⟩ := HC.out k hlt
      have ck' := (hB.cell (p := ⟨b, off + k * 3, none⟩) hb).trans ck
      have dk' := (hB.cell (p := ⟨b, off + k * 3 + 1, none⟩) hb).trans dk
      have ek' := (hB.cell (p := ⟨b, off + k * 3 + 2, none⟩) hb).trans ek
      obtain ⟨⟨v0, r0⟩, s0⟩ := hM.cells (k * 3) (by omega)
      obtain ⟨⟨v1, r1⟩, s1⟩ := hM.cells (k * 3 + 1) (by omega)
      obtain ⟨⟨v2, r2⟩, s2⟩ := hM.cells (k * 3 + 2) (by omega)
      have hki : (k : Int) < (n : Int) := by omega
      have X : Aside (Made (((wr.setCell ⟨w.heap.size, k * 3, none⟩ (.string (M k).1)).setCell ⟨w.heap.size, k * 3 + 1, none⟩ (.string (M k).2.1)).setCell ⟨w.heap.size, k * 3 + 2, none⟩ (.int .i64 (M k).2.2)) w.heap.size n (k + 1) M) := hM.store hlt
      have Y : Aside (Below w.heap.size w (((wr.setCell ⟨w.heap.size, k * 3, none⟩ (.string (M k).1)).setCell ⟨w.heap.size, k * 3 + 1, none⟩ (.string (M k).2.1)).setCell ⟨w.heap.size, k * 3 + 2, none⟩ (.int .i64 (M k).2.2))) := ((hB.setCell (Nat.le_refl _) _).setCell (Nat.le_refl _) _).setCell (Nat.le_refl _) _
      clear ck dk ek hM
      go_wp2
      go_roundw
      case rel => exact ⟨k + 1, by omega, by go_num, X.out, Y.out⟩
      case measure => simp [intOf]; omega
    · have e : n = k := by omega
      subst e
      go_wp2
      go_ret
      exact ⟨rfl, hM, hB⟩

/-- '<' on ids. -/
def lessB (a b : ByteArray) : Bool := Op.bytesLess a.toList b.toList
/-- cmp.Compare on ids. -/
def cmpB (a b : ByteArray) : Int := if lessB a b = true then -1 else if a.toList == b.toList then 0 else 1

theorem isNaN28 (a : ByteArray) (w : World) : Calls Try.prog 28 #[.string a] w fun e w' => e = .returned (.bool false) ∧ w = w' := by
  go_enter Try.func28, Try.ntmps28
  go_wp2
  go_ret
  exact ⟨by simp, rfl⟩

set_option maxHeartbeats 1000000 in
theorem compare17 (a b : ByteArray) (w : World) : Calls Try.prog 17 #[.string a, .string b] w fun e w' => e = .returned (.int .i64 (cmpB a b)) ∧ w = w' := by
  unfold cmpB lessB
  cases h1 : Op.bytesLess a.toList b.toList
  · cases h2 : (a.toList == b.toList)
    · go_enter Try.func17, Try.ntmps17
      go_wp2_with (go_at_call 28; refine (isNaN28 _ _).mono ?_; rintro e w' ⟨rfl, rfl⟩)
      go_ret
      exact ⟨rfl, rfl⟩
    · go_enter Try.func17, Try.ntmps17
      go_wp2_with (go_at_call 28; refine (isNaN28 _ _).mono ?_; rintro e w' ⟨rfl, rfl⟩)
      go_ret
      exact ⟨rfl, rfl⟩
  · go_enter Try.func17, Try.ntmps17
    go_wp2_with (go_at_call 28; refine (isNaN28 _ _).mono ?_; rintro e w' ⟨rfl, rfl⟩)
    go_ret
    exact ⟨rfl, rfl⟩

set_option maxHeartbeats 1000000 in
/-- compareIDs, in whatever world: two blocks are laid. -/
theorem compare14 (x y : ByteArray × ByteArray × Int) (W : World) : Calls Try.prog 14 #[.agg (enc x).toArray, .agg (enc y).toArray] W fun e w' => e = .returned (.int .i64 (cmpB x.1 y.1)) ∧ ∃ q os', w' = Sort.grow (W.drewN q) os' := by
  obtain ⟨x1, x2, x3⟩ := x
  obtain ⟨y1, y2, y3⟩ := y
  have hcon := fun W' => compare17 x1 y1 W'
  show Calls Try.prog 14 #[.agg #[.string x1, .string x2, .int .i64 x3], .agg #[.string y1, .string y2, .int .i64 y3]] W fun e w' => e = .returned (.int .i64 (cmpB x1 y1)) ∧ ∃ q os', w' = Sort.grow (W.drewN q) os'
  generalize cmpB x1 y1 = r at hcon ⊢
  go_enter Try.func14, Try.ntmps14
  go_wp2_with (go_at_call 17; refine (hcon _).mono ?_; rintro e w' ⟨rfl, rfl⟩)
  go_ret
  exact ⟨rfl, 0, _, by rw [Sort.alloc_eq_grow, Sort.alloc_eq_grow, Sort.grow_grow]; rfl⟩

/-- The cells of n members. -/
def cellsOfM (M : Nat → ByteArray × ByteArray × Int) (n : Nat) : List Value := (List.range n).flatMap fun j => enc (M j)
theorem cellsOfM_length (M : Nat → ByteArray × ByteArray × Int) (n : Nat) : (cellsOfM M n).length = n * 3 := by
  induction n with
  | zero => rfl
  | succ n ih => unfold cellsOfM at ih ⊢; rw [List.range_succ, List.flatMap_append, List.length_append, ih]; simp [enc]; omega
theorem cellsOfM_succ (M : Nat → ByteArray × ByteArray × Int) (n : Nat) : cellsOfM M (n + 1) = cellsOfM M n ++ enc (M n) := by
  unfold cellsOfM; rw [List.range_succ, List.flatMap_append]; simp
theorem cellsOfM_get (M : Nat → ByteArray × ByteArray × Int) (n j c : Nat) (hj : j < n) (hc : c < 3) : (cellsOfM M n)[j * 3 + c]? = (enc (M j))[c]? := by
  induction n with
  | zero => omega
  | succ n ih =>
    rw [cellsOfM_succ, List.getElem?_append, cellsOfM_length]
    by_cases h : j = n
    · subst h
      rw [if_neg (by omega), show j * 3 + c - j * 3 = c by omega]
    · rw [if_pos (by omega)]; exact ih (by omega)
theorem cellsOfM_one (M : Nat → ByteArray × ByteArray × Int) (n : Nat) : ∀ u ∈ cellsOfM M n, u.oneCell' = true := by
  intro u hu
  unfold cellsOfM at hu
  obtain ⟨j, _, h⟩ := List.mem_flatMap.1 hu
  simp [enc] at h
  rcases h with rfl | rfl | rfl <;> rfl
theorem cellsOfM_cell {W : World} {b off n : Nat} {M : Nat → ByteArray × ByteArray × Int} (h : Mems W b off n M) : ∀ j u, (cellsOfM M n)[j]? = some u → W.cell? ⟨b, off + j, none⟩ = some u := by
  intro t u hu
  have ht : t < n * 3 := by
    rcases Nat.lt_or_ge t (n * 3) with h | h
    · exact h
    · rw [List.getElem?_eq_none (by rw [cellsOfM_length]; exact h)] at hu; cases hu
  obtain ⟨h1, h2, h3⟩ := h (t / 3) (by omega)
  have e : t = t / 3 * 3 + t % 3 := by omega
  rw [e, cellsOfM_get M n (t / 3) (t % 3) (by omega) (by omega)] at hu
  rw [e, ← Nat.add_assoc]
  have hm : t % 3 = 0 ∨ t % 3 = 1 ∨ t % 3 = 2 := by omega
  rcases hm with hm | hm | hm
  · rw [hm] at hu ⊢; simp [enc] at hu; rw [← hu]; exact h1
  · rw [hm] at hu ⊢; simp [enc] at hu; rw [← hu]; exact h2
  · rw [hm] at hu ⊢; simp [enc] at hu; rw [← hu]; exact h3

set_option maxHeartbeats 1000000 in
/-- slices.Clone at members, after the shelf's proof. -/
theorem clone12 (b off n c : Nat) (M : Nat → ByteArray × ByteArray × Int) (w : World) (hn : n ≤ 4096) (hc : Mems w b off n M) :
    Calls Try.prog 12 #[.slice (some ⟨b, off, none⟩) n c] w fun e w' => ∃ v', e = .returned v' ∧ w'.ownsRow w.heap.size 34 3 v' n (cellsOfM M n) ∧ v' ≠ .slice none 0 0 ∧ Below w.heap.size w w' := by
  obtain ⟨i0, hi, hz0, hz1, hz2⟩ := info_parts info34
  have q22 : ∀ (w : World) (a : Option Addr) (n c n' c' : Nat), (binOp .eql 24 (.slice a n c) (.slice none n' c')).run Try.prog w = .ok (.bool a.isNone) w := fun w a n c n' c' => Lib.run_eql_slice_nil w _ _ a n c n' c' Try.underlying24
  have A : Aside (∀ j u, (cellsOfM M n)[j]? = some u → w.cell? ⟨b, off + j, none⟩ = some u) := cellsOfM_cell hc
  clear hc
  go_enter Try.func12, Try.ntmps12
  go_wp2_with (at_builtin; refine wpList_append_own _ rfl _ _ 24 rfl w.heap.size 34 i0 _ 3 40 Try.underlying24 hi hz0 hz1 hz2 rfl (by decide) _ _ _ rfl (World.ownsRow_made w #[] 0 (Nat.le_refl _) (Nat.zero_le _) (by simp)) ⟨b, off, none⟩ n c (cellsOfM M n) rfl ?qc1 ?qc2 ?qc3 ?qc4 ?qc5 ?qc6 ?_)
  case qc1 => exact cellsOfM_length M n
  case qc2 =>
    intro j u hj
    rw [Addr.add_lit]
    exact Lib.cell?_alloc_some _ (A.out j u hj)
  case qc3 => exact cellsOfM_one M n
  case qc4 => unfold maxLen; omega
  case qc5 => omega
  case qc6 => simp
  intro v' w1 hown hgrow hnil
  go_wp2
  go_ret
  refine ⟨v', rfl, by simpa using hown, ?_, ?_⟩
  · exact hnil
  · exact ((Below.refl _ w).alloc (Nat.le_refl _) _).grown hgrow (by simp) (by intro k hk; simp [Value.ownBlock] at hk; omega)
end Go.Proofs.Qxb6630826a
