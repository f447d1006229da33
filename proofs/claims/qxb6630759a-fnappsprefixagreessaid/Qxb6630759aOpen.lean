import Derived.Test.Qxb6630759aRank
import Derived.Deep.SlicePairs
import Derived.Deep.Slices
import Derived.Deep.Strs
import Derived.ChangeArms
namespace Go.Proofs.Qxb6630759a
open Go.RowKit Go.Deep Go.ChangeShapes Go.WideShapes
set_option linter.unusedVariables false

theorem cells28 : Try.prog.cellsOf 28 = 2 := by kernel_rfl
theorem cells9 : Try.prog.cellsOf 9 = 1 := by kernel_rfl
theorem cells41 : Try.prog.cellsOf 41 = 3 := by kernel_rfl
theorem cells3 : Try.prog.cellsOf 3 = 1 := by kernel_rfl
theorem cells39 : Try.prog.cellsOf 39 = 1 := by kernel_rfl

/-- A float is read as it stands. -/
theorem trod_float {H : Type} {enc : TypeId × Value → H} {P : Program} {w : World} {base : Nat} {spare : Nat → Bool} {held : Bool} {t : TypeId} {k : FloatKind} {fuel : Nat} {cs : List Value} {x : DataW H × List MemPlace}
    (ht : P.underlying t = some (.float k)) (h : DataW.trod enc P w base spare held fuel t cs = some x) : ∃ n, cs = [.float k n] := by
  cases fuel with
  | zero => simp [DataW.trod] at h
  | succ n =>
    unfold DataW.trod at h
    rw [ht] at h
    split at h <;> simp_all

/-- The functions that came in. -/
theorem open_fns {H : Type} {enc : TypeId × Value → H} {W : World} {a : Option Addr} {len cap : Nat} {d : DataW H} {ps : List MemPlace} (h : DataW.Trod enc Try.prog W 0 (fun _ => true) true 22 (.slice a len cap) d ps) :
    ∃ (b off : Nat) (p q : Nat → ByteArray), (a = none → len = 0) ∧ (0 < len → a = some ⟨b, off, none⟩) ∧ (0 < len → b < W.heap.size) ∧ Pairs W b off len p q ∧ len ≤ maxLen ∧ ∀ j, j < len → (p j).size ≤ maxLen := by
  obtain ⟨fuel, hf⟩ := h
  rcases open_slice_pairs Try.underlying22 Try.underlying28 cells28 rfl rfl cells9 cells9 hf with ⟨hcs, _⟩ | ⟨x, l, c, m, n, V0, V1, D0, D1, P0, P1, hcs, _, hl, hm, hmm, _, hx⟩
  · simp [Value.cells] at hcs
    obtain ⟨rfl, rfl, rfl⟩ := hcs
    exact ⟨0, 0, fun _ => ByteArray.empty, fun _ => ByteArray.empty, fun _ => rfl, fun h => absurd h (Nat.lt_irrefl _), fun h => absurd h (Nat.lt_irrefl _), fun j hj => absurd hj (Nat.not_lt_zero _), by unfold maxLen; omega, fun j hj => absurd hj (Nat.not_lt_zero _)⟩
  · simp [Value.cells] at hcs
    obtain ⟨rfl, rfl, rfl⟩ := hcs
    simp only [if_true] at hmm
    subst hmm
    obtain ⟨b, off, spot⟩ := x
    have hs : 0 < len → spot = none := fun h0 => by simpa [Addr.add] using World.cell?_spot (hx 0 (by omega)).1
    have each : ∀ j, j < len → ∃ s : ByteArray × ByteArray, V0 j = .string s.1 ∧ V1 j = .string s.2 ∧ s.1.size ≤ maxLen := by
      intro j hj
      obtain ⟨_, _, t0, t1⟩ := hx j (by omega)
      obtain ⟨s0, e0, _, w0⟩ := DataW.trod_string Try.underlying9 t0
      obtain ⟨s1, e1, _, _⟩ := DataW.trod_string Try.underlying9 t1
      simp at e0 e1
      exact ⟨(s0, s1), e0, e1, w0⟩
    obtain ⟨s, hs2⟩ := choose_lt each
    have hP : Pairs W b off len (fun j => (s j).1) (fun j => (s j).2) := by
      intro j hj
      have e := hs (by omega)
      subst e
      obtain ⟨c0, c1, _, _⟩ := hx j (by omega)
      obtain ⟨e0, e1, _⟩ := hs2 j hj
      rw [add_plain, e0] at c0
      rw [add_plain, e1] at c1
      exact ⟨c0, c1⟩
    exact ⟨b, off, fun j => (s j).1, fun j => (s j).2, fun h => (by cases h), fun h => (by rw [hs h]), fun h => World.block_lt_of_cell? _ _ (hP 0 h).1, hP, by omega, fun j hj => (hs2 j hj).2.2⟩

/-- The invocations that came in. -/
theorem open_invs {H : Type} {enc : TypeId × Value → H} {W : World} {a : Option Addr} {len cap : Nat} {d : DataW H} {ps : List MemPlace} (h : DataW.Trod enc Try.prog W 0 (fun _ => true) true 23 (.slice a len cap) d ps) :
    ∃ (b off : Nat) (zi : Nat → Int) (xf yf : Nat → Nat), (a = none → len = 0) ∧ (0 < len → a = some ⟨b, off, none⟩) ∧ (0 < len → b < W.heap.size) ∧ Trips W b off len zi xf yf ∧ len ≤ maxLen := by
  obtain ⟨fuel, hf⟩ := h
  rcases open_slice Try.underlying23 hf with ⟨hcs, _⟩ | ⟨x, l, c, m, n, D, Pl, hcs, _, hl, hm, hmm, _, hx⟩
  · simp [Value.cells] at hcs
    obtain ⟨rfl, rfl, rfl⟩ := hcs
    exact ⟨0, 0, fun _ => 0, fun _ => 0, fun _ => 0, fun _ => rfl, fun h => absurd h (Nat.lt_irrefl _), fun h => absurd h (Nat.lt_irrefl _), fun j hj => absurd hj (Nat.not_lt_zero _), by unfold maxLen; omega⟩
  · simp [Value.cells] at hcs
    obtain ⟨rfl, rfl, rfl⟩ := hcs
    simp only [if_true] at hmm
    subst hmm
    rw [cells41] at hx
    have each : ∀ j, j < len → ∃ s : Int × Nat × Nat, W.cell? (x.add (j * 3)) = some (.int .i64 s.1) ∧ W.cell? (x.add (j * 3 + 1)) = some (.float .f64 s.2.1) ∧ W.cell? (x.add (j * 3 + 2)) = some (.float .f64 s.2.2) := by
      intro j hj
      obtain ⟨cs', h1, h2⟩ := hx j (by omega)
      obtain ⟨_, hlen, hcell⟩ := World.cells?_some h1
      obtain ⟨y0, y1, y2, k, _, _, t0, t1, t2⟩ := trod_struct3 Try.underlying41 h2
      match cs', hlen with
      | [v0, v1, v2], _ =>
        simp [cells3, cells39] at t0 t1 t2
        obtain ⟨z, e0, _⟩ := DataW.trod_int Try.underlying3 t0
        obtain ⟨f, e1⟩ := trod_float Try.underlying39 t1
        obtain ⟨f', e2⟩ := trod_float Try.underlying39 t2
        simp at e0 e1 e2
        have g0 := hcell 0 (by omega)
        have g1 := hcell 1 (by omega)
        have g2 := hcell 2 (by omega)
        rw [add_add] at g0 g1 g2
        subst e0; subst e1; subst e2
        exact ⟨(z, f, f'), by simpa using g0, by simpa using g1, by simpa using g2⟩
    obtain ⟨s, hs2⟩ := choose_lt each
    obtain ⟨b, off, spot⟩ := x
    have hs : 0 < len → spot = none := fun h0 => by simpa [Addr.add] using World.cell?_spot (hs2 0 h0).1
    have hP : Trips W b off len (fun j => (s j).1) (fun j => (s j).2.1) (fun j => (s j).2.2) := by
      intro j hj
      have e := hs (by omega)
      subst e
      obtain ⟨c0, c1, c2⟩ := hs2 j hj
      rw [add_plain] at c0 c1 c2
      exact ⟨c0, c1, c2⟩
    exact ⟨b, off, fun j => (s j).1, fun j => (s j).2.1, fun j => (s j).2.2, fun h => (by cases h), fun h => (by rw [hs h]), fun h => World.block_lt_of_cell? _ _ (hP 0 h).1, hP, by omega⟩
end Go.Proofs.Qxb6630759a
