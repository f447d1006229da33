import Derived.Test.Qxb6630826aRank
import Derived.Deep.Slices
import Derived.Deep.SlicePairs
import Derived.Deep.Strs
import Derived.ChangeArms
namespace Go.Proofs.Qxb6630826a
open Go.RowKit Go.Deep Go.ChangeShapes Go.WideShapes
set_option linter.unusedVariables false

theorem cells33 : Try.prog.cellsOf 33 = 3 := by kernel_rfl
theorem cells9 : Try.prog.cellsOf 9 = 1 := by kernel_rfl
theorem cells31 : Try.prog.cellsOf 31 = 1 := by kernel_rfl

/-- The members that came in. -/
theorem open_mems {H : Type} {enc : TypeId × Value → H} {W : World} {a : Option Addr} {len cap : Nat} {d : DataW H} {ps : List MemPlace} (h : DataW.Trod enc Try.prog W 0 (fun _ => true) true 22 (.slice a len cap) d ps) :
    ∃ (b off : Nat) (M : Nat → ByteArray × ByteArray × Int), (a = none → len = 0) ∧ (0 < len → a = some ⟨b, off, none⟩) ∧ (0 < len → b < W.heap.size) ∧ Mems W b off len M ∧ len ≤ maxLen := by
  obtain ⟨fuel, hf⟩ := h
  rcases open_slice Try.underlying22 hf with ⟨hcs, _⟩ | ⟨x, l, c, m, n, D, Pl, hcs, _, hl, hm, hmm, _, hx⟩
  · simp [Value.cells] at hcs
    obtain ⟨rfl, rfl, rfl⟩ := hcs
    exact ⟨0, 0, fun _ => (ByteArray.empty, ByteArray.empty, 0), fun _ => rfl, fun h => absurd h (Nat.lt_irrefl _), fun h => absurd h (Nat.lt_irrefl _), fun j hj => absurd hj (Nat.not_lt_zero _), by unfold maxLen; omega⟩
  · simp [Value.cells] at hcs
    obtain ⟨rfl, rfl, rfl⟩ := hcs
    simp only [if_true] at hmm
    subst hmm
    rw [cells33] at hx
    have each : ∀ j, j < len → ∃ s : ByteArray × ByteArray × Int, W.cell? (x.add (j * 3)) = some (.string s.1) ∧ W.cell? (x.add (j * 3 + 1)) = some (.string s.2.1) ∧ W.cell? (x.add (j * 3 + 2)) = some (.int .i64 s.2.2) := by
      intro j hj
      obtain ⟨cs', h1, h2⟩ := hx j (by omega)
      obtain ⟨_, hlen, hcell⟩ := World.cells?_some h1
      obtain ⟨y0, y1, y2, k, _, _, t0, t1, t2⟩ := trod_struct3 Try.underlying33 h2
      match cs', hlen with
      | [v0, v1, v2], _ =>
        simp [cells9, cells31] at t0 t1 t2
        obtain ⟨s0, e0, _, _⟩ := DataW.trod_string Try.underlying9 t0
        obtain ⟨s1, e1, _, _⟩ := DataW.trod_string Try.underlying9 t1
        obtain ⟨z, e2, _⟩ := DataW.trod_int Try.underlying31 t2
        simp at e0 e1 e2
        have g0 := hcell 0 (by omega)
        have g1 := hcell 1 (by omega)
        have g2 := hcell 2 (by omega)
        rw [add_add] at g0 g1 g2
        subst e0; subst e1; subst e2
        exact ⟨(s0, s1, z), by simpa using g0, by simpa using g1, by simpa using g2⟩
    obtain ⟨s, hs2⟩ := choose_lt each
    obtain ⟨b, off, spot⟩ := x
    have hs : 0 < len → spot = none := fun h0 => by simpa [Addr.add] using World.cell?_spot (hs2 0 h0).1
    have hP : Mems W b off len s := by
      intro j hj
      have e := hs (by omega)
      subst e
      obtain ⟨c0, c1, c2⟩ := hs2 j hj
      rw [add_plain] at c0 c1 c2
      exact ⟨c0, c1, c2⟩
    exact ⟨b, off, s, fun h => (by cases h), fun h => (by rw [hs h]), fun h => World.block_lt_of_cell? _ _ (hP 0 h).1, hP, by omega⟩

set_option maxHeartbeats 1000000 in
/-- The short ways of law 3: a list too long, an empty one, two members of one id. -/
theorem short3 (a0 : Option Addr) (b off n c : Nat) (M : Nat → ByteArray × ByteArray × Int) (w : World) (ha : 0 < n → a0 = some ⟨b, off, none⟩) (hn : n ≤ maxLen) (hc : Mems w b off n M) (h : ¬ (1 ≤ n ∧ n ≤ 4096 ∧ Dist M n)) :
    Calls Try.prog 3 #[.slice a0 n c] w fun e w' => e = .returned (.bool true) ∧ Below w.heap.size w w' := by
  have HA : Aside (0 < n → a0 = some ⟨b, off, none⟩) := ha
  have HC : Aside (Mems w b off n M) := hc
  have H : Aside (¬ (1 ≤ n ∧ n ≤ 4096 ∧ Dist M n)) := h
  clear ha h hc
  go_enter Try.func3, Try.ntmps3
  go_wp2_with fail
  refine (bytes5 _ b off _ _ M _ HA.out hn HC.out).mono ?_
  rintro e w' ⟨⟨r, rfl⟩, rfl⟩
  cases r
  · go_wp2
    go_ret
    exact ⟨rfl, Below.refl _ _⟩
  by_cases hl : n ≤ 4096
  · go_wp2_with fail
    refine (size6 _ b off _ _ M _ HA.out hl HC.out).mono ?_
    rintro e w' ⟨⟨r, rfl⟩, rfl⟩
    cases r
    · go_wp2
      go_ret
      exact ⟨rfl, Below.refl _ _⟩
    by_cases h0 : n = 0
    · subst h0
      go_wp2
      go_ret
      exact ⟨rfl, Below.refl _ _⟩
    · have hn0 : ((n : Int) == 0) = false := beq_eq_false_iff_ne.2 (by omega)
      go_wp2_with fail
      refine (distinct7 false _ b off _ _ M _ HA.out hl HC.out ⟨fun e => (by cases e), fun e => absurd ⟨by omega, hl, e⟩ H.out⟩).mono ?_
      rintro e w' ⟨rfl, d, rfl⟩
      go_wp2
      go_ret
      exact ⟨rfl, Go.below_drewN (Below.refl _ _) d⟩
  · go_wp2_with fail
    refine (size6_long _ _ _ _ hn hl).mono ?_
    rintro e w' ⟨rfl, rfl⟩
    go_wp2
    go_ret
    exact ⟨rfl, Below.refl _ _⟩

theorem law3 (a0 : Option Addr) (b off n c : Nat) (M : Nat → ByteArray × ByteArray × Int) (w : World) (ha : 0 < n → a0 = some ⟨b, off, none⟩) (hb : 0 < n → b < w.heap.size) (hn : n ≤ maxLen) (hc : Mems w b off n M) :
    Calls Try.prog 3 #[.slice a0 n c] w fun e w' => e = .returned (.bool true) ∧ Below w.heap.size w w' := by
  by_cases h : 1 ≤ n ∧ n ≤ 4096 ∧ Dist M n
  · have e := ha (by omega)
    subst e
    exact rank3 b off n c M w (hb (by omega)) h.1 h.2.1 hc h.2.2
  · exact short3 a0 b off n c M w ha hn hc h
end Go.Proofs.Qxb6630826a
