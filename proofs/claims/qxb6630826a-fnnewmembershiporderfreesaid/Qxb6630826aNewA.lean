import Derived.Test.Qxb6630826aRow
import Derived.Test.Qxb6630826aMath
import Derived.Deep.DeepCutAuto
import Derived.Deep.RegionHeld3
import Derived.Deep.RegionWith
namespace Go.Proofs.Qxb6630826a
open Go.RowKit
set_option linter.unusedVariables false

/-- The order of members: by id. -/
def ltM (x y : ByteArray × ByteArray × Int) : Bool := lessB x.1 y.1

/-- WHAT slices.SortFunc(.., compareIDs) DOES TO A ROW OF MEMBERS. -/
def SortSaid : Prop := ∀ (blk cap n : Nat) (M : Nat → ByteArray × ByteArray × Int) (w : World), Mems w blk 0 n M → (∀ t, t < n * 3 → w.frozen? ⟨blk, t, none⟩ = false) → blk < w.heap.size → n ≤ 4096 →
  Calls Try.prog 13 #[.slice (some ⟨blk, 0, none⟩) n cap, .func (.func 14) #[] #[]] w fun e w' => e = .returned (.tuple #[]) ∧
    ∃ M' : Nat → ByteArray × ByteArray × Int, (Plain.tab M' n).Perm (Plain.tab M n) ∧ Plain.Sorted ltM (Plain.tab M' n) ∧ Mems w' blk 0 n M' ∧ w.grownBy w' (some blk)

/-- A member as a voter. -/
def voter (x : ByteArray × ByteArray × Int) : ByteArray × ByteArray × Int := (x.1, x.2.1, 0)

theorem Mems.below {W W' : World} {b off n : Nat} {M : Nat → ByteArray × ByteArray × Int} (h : Mems W b off n M) (hb : Below W.heap.size W W') (hg : b < W.heap.size) : Mems W' b off n M :=
  fun j hj => ⟨(hb.cell (p := ⟨b, off + j * 3, none⟩) hg).trans (h j hj).1, (hb.cell (p := ⟨b, off + j * 3 + 1, none⟩) hg).trans (h j hj).2.1, (hb.cell (p := ⟨b, off + j * 3 + 2, none⟩) hg).trans (h j hj).2.2⟩

/-- The membership that is being made, in its variable at V; its members at gc, the first k of them voters; the result's own variable at w.heap.size. -/
structure InM (w wr : World) (V gc cap n k : Nat) (M : Nat → ByteArray × ByteArray × Int) : Prop where
  c0 : wr.cell? ⟨V, 0, none⟩ = some (.int .u64 1)
  c1 : wr.cell? ⟨V, 1, none⟩ = some (.string (M 0).1)
  c2 : wr.cell? ⟨V, 2, none⟩ = some (.slice (some ⟨gc, 0, none⟩) n cap)
  c3 : wr.cell? ⟨V, 3, none⟩ = some (.slice none 0 0)
  r : ∀ j, j < 4 → (∃ v, wr.cell? ⟨w.heap.size, j, none⟩ = some v) ∧ wr.frozen? ⟨w.heap.size, j, none⟩ = false
  own : ∃ xs, wr.ownsRow (w.heap.size + 1) 34 3 (.slice (some ⟨gc, 0, none⟩) n cap) n xs ∧ ∀ j, j < n → xs[j * 3]? = some (.string (M j).1) ∧ xs[j * 3 + 1]? = some (.string (M j).2.1) ∧ ∃ z, xs[j * 3 + 2]? = some (.int .i64 z) ∧ (j < k → z = 0)
  hV : w.heap.size < V
  hg : w.heap.size < gc
  ne : V ≠ gc
  bel : Below w.heap.size w wr

theorem Mems.drew {W : World} {b off n : Nat} {M : Nat → ByteArray × ByteArray × Int} (h : Mems W b off n M) : Mems W.drew b off n M := h
theorem Mems.alloc {W : World} {b off n : Nat} {M : Nat → ByteArray × ByteArray × Int} (h : Mems W b off n M) (hb : b < W.heap.size) (o : Obj) : Mems (W.alloc o) b off n M :=
  h.below ((Below.refl _ _).alloc (Nat.le_refl _) o) hb

/-- slices.Clone, the slice's shape told. -/
theorem clone12i (b off n c : Nat) (M : Nat → ByteArray × ByteArray × Int) (w : World) (hn : n ≤ 4096) (hc : Mems w b off n M) :
    Calls Try.prog 12 #[.slice (some ⟨b, off, none⟩) n c] w fun e w' => ∃ gc cap, e = .returned (.slice (some ⟨gc, 0, none⟩) n cap) ∧ w.heap.size ≤ gc ∧ w'.ownsRow w.heap.size 34 3 (.slice (some ⟨gc, 0, none⟩) n cap) n (cellsOfM M n) ∧ Below w.heap.size w w' := by
  refine (clone12 b off n c M w hn hc).mono ?_
  rintro e w' ⟨v', rfl, hown, hnn, hbel⟩
  rcases hown.2 with ⟨h, _⟩ | ⟨g, cap, cur, rfl, hg, _⟩
  · exact absurd h hnn
  · exact ⟨g, cap, rfl, hg, hown, hbel⟩

theorem below1 (w : World) (o : Obj) : Below w.heap.size w (w.alloc o).drew := ((Below.refl _ _).alloc (Nat.le_refl _) _).drew
theorem below2 (w : World) (o o' : Obj) : Below w.heap.size w ((w.alloc o).alloc o').drew := (((Below.refl _ _).alloc (Nat.le_refl _) _).alloc (by simp) _).drew

/-- slices.Clone, met in a world that has come of w0. -/
theorem clone12j (w0 : World) (b off n c : Nat) (M : Nat → ByteArray × ByteArray × Int) (W : World) (hn1 : 1 ≤ n) (hn : n ≤ 4096) (hb : b < w0.heap.size) (hM : Mems w0 b off n M) (hW : Below w0.heap.size w0 W) :
    Calls Try.prog 12 #[.slice (some ⟨b, off, none⟩) n c] W fun e w1 => ∃ gc cap, e = .returned (.slice (some ⟨gc, 0, none⟩) n cap) ∧ W.heap.size ≤ gc ∧ w1.ownsRow W.heap.size 34 3 (.slice (some ⟨gc, 0, none⟩) n cap) n (cellsOfM M n) ∧
      Below W.heap.size W w1 ∧ b < w1.heap.size ∧ w1.cell? ⟨b, off, none⟩ = some (.string (M 0).1) ∧ (∀ b o, b < W.heap.size → w1.cell? ⟨b, o, none⟩ = W.cell? ⟨b, o, none⟩) ∧ (∀ b o, b < W.heap.size → w1.frozen? ⟨b, o, none⟩ = W.frozen? ⟨b, o, none⟩) := by
  have hMW := hM.below hW hb
  have hbW : b < W.heap.size := Nat.lt_of_lt_of_le hb hW.size
  refine (clone12i b off n c M W hn hMW).mono ?_
  rintro e w1 ⟨gc, cap, rfl, hgc, hown, hbel⟩
  refine ⟨gc, cap, rfl, hgc, hown, hbel, Nat.lt_of_lt_of_le hbW hbel.size, ?_, fun b o h => hbel.cell (p := ⟨b, o, none⟩) h, fun b o h => hbel.frozen (p := ⟨b, o, none⟩) h⟩
  have := (hMW 0 (by omega)).1
  rw [Nat.zero_mul, Nat.add_zero] at this
  exact (hbel.cell (p := ⟨b, off, none⟩) hbW).trans this

/-- The zero membership. -/
def zeroM : Obj := .cells #[.int .u64 0, .string ⟨#[]⟩, .slice none 0 0, .slice none 0 0] 29

theorem own_mono {w : World} {base base' : Nat} {e : TypeId} {size : Nat} {v : Value} {n : Nat} {xs : List Value} (h : w.ownsRow base e size v n xs) (hb : base' ≤ base) : w.ownsRow base' e size v n xs := by
  refine ⟨h.1, ?_⟩
  rcases h.2 with h | ⟨g, cap, cur, h1, h2, h3⟩
  · exact Or.inl h
  · exact Or.inr ⟨g, cap, cur, h1, Nat.le_trans hb h2, h3⟩

theorem own_cells {w : World} {base g cap n : Nat} {M : Nat → ByteArray × ByteArray × Int} (h : w.ownsRow base 34 3 (.slice (some ⟨g, 0, none⟩) n cap) n (cellsOfM M n)) :
    ∃ xs, w.ownsRow base 34 3 (.slice (some ⟨g, 0, none⟩) n cap) n xs ∧ ∀ j, j < n → xs[j * 3]? = some (.string (M j).1) ∧ xs[j * 3 + 1]? = some (.string (M j).2.1) ∧ ∃ z, xs[j * 3 + 2]? = some (.int .i64 z) ∧ (j < 0 → z = 0) := by
  refine ⟨_, h, fun j hj => ?_⟩
  have e0 := cellsOfM_get M n j 0 hj (by omega)
  have e1 := cellsOfM_get M n j 1 hj (by omega)
  have e2 := cellsOfM_get M n j 2 hj (by omega)
  rw [Nat.add_zero] at e0
  exact ⟨e0, e1, (M j).2.2, e2, fun h => absurd h (Nat.not_lt_zero _)⟩

theorem inA {w w1 : World} {gc cap n : Nat} {M : Nat → ByteArray × ByteArray × Int} (hgc : (w.alloc zeroM).drew.heap.size ≤ gc) (hown : w1.ownsRow (w.alloc zeroM).drew.heap.size 34 3 (.slice (some ⟨gc, 0, none⟩) n cap) n (cellsOfM M n)) (hbel : Below (w.alloc zeroM).drew.heap.size (w.alloc zeroM).drew w1) :
    InM w (w1.alloc (.cells #[.int .u64 1, .string (M 0).1, .slice (some ⟨gc, 0, none⟩) n cap, .slice none 0 0] 29)) w1.heap.size gc cap n 0 M := by
  have e : (w.alloc zeroM).drew.heap.size = w.heap.size + 1 := by simp
  have hs := hbel.size
  have hgl : gc < w1.heap.size := (hown.lt _ rfl).2
  rw [e] at hgc hs
  refine ⟨by simp, by simp, by simp, by simp, fun j hj => ?_, ?_, by omega, by omega, by show w1.heap.size ≠ gc; omega, ?_⟩
  · have hb : Below w1.heap.size w1 (w1.alloc (.cells #[.int .u64 1, .string (M 0).1, .slice (some ⟨gc, 0, none⟩) n cap, .slice none 0 0] 29)) := (Below.refl _ _).alloc (Nat.le_refl _) _
    rw [hb.cell (p := ⟨w.heap.size, j, none⟩) (by show w.heap.size < w1.heap.size; omega), hb.frozen (p := ⟨w.heap.size, j, none⟩) (by show w.heap.size < w1.heap.size; omega), hbel.cell (p := ⟨w.heap.size, j, none⟩) (by rw [e]; exact Nat.lt_succ_self _), hbel.frozen (p := ⟨w.heap.size, j, none⟩) (by rw [e]; exact Nat.lt_succ_self _)]
    match j, hj with
    | 0, _ => simp [zeroM]
    | 1, _ => simp [zeroM]
    | 2, _ => simp [zeroM]
    | 3, _ => simp [zeroM]
  · rw [e] at hown
    exact own_cells (hown.alloc _)
  · exact ((below1 w zeroM).trans (hbel.mono (by omega))).alloc (by omega) _

theorem inB {w w1 : World} {gc cap n : Nat} {M : Nat → ByteArray × ByteArray × Int} (hgc : ((w.alloc zeroM).alloc zeroM).drew.heap.size ≤ gc) (hown : w1.ownsRow ((w.alloc zeroM).alloc zeroM).drew.heap.size 34 3 (.slice (some ⟨gc, 0, none⟩) n cap) n (cellsOfM M n)) (hbel : Below ((w.alloc zeroM).alloc zeroM).drew.heap.size ((w.alloc zeroM).alloc zeroM).drew w1) :
    InM w ((((w1.setCell ⟨w.heap.size + 1, 0, none⟩ (.int .u64 1)).setCell ⟨w.heap.size + 1, 1, none⟩ (.string (M 0).1)).setCell ⟨w.heap.size + 1, 2, none⟩ (.slice (some ⟨gc, 0, none⟩) n cap)).setCell ⟨w.heap.size + 1, 3, none⟩ (.slice none 0 0)) (w.heap.size + 1) gc cap n 0 M := by
  have e : ((w.alloc zeroM).alloc zeroM).drew.heap.size = w.heap.size + 2 := by simp
  have hs := hbel.size
  rw [e] at hgc hs
  have f : ∀ j, j < 4 → ∃ v, w1.cell? ⟨w.heap.size + 1, j, none⟩ = some v := by
    intro j hj
    rw [hbel.cell (p := ⟨w.heap.size + 1, j, none⟩) (by rw [e]; exact Nat.lt_succ_self _)]
    match j, hj with
    | 0, _ => simp [zeroM]
    | 1, _ => simp [zeroM]
    | 2, _ => simp [zeroM]
    | 3, _ => simp [zeroM]
  obtain ⟨u0, f0⟩ := f 0 (by omega)
  obtain ⟨u1, f1⟩ := f 1 (by omega)
  obtain ⟨u2, f2⟩ := f 2 (by omega)
  obtain ⟨u3, f3⟩ := f 3 (by omega)
  have ne : ∀ a b : Nat, a ≠ b → (⟨w.heap.size + 1, a, none⟩ : Addr) ≠ ⟨w.heap.size + 1, b, none⟩ := fun a b h e => h (by injection e)
  have nb : ∀ a b : Nat, (⟨w.heap.size + 1, a, none⟩ : Addr) ≠ ⟨w.heap.size, b, none⟩ := fun a b e => by simp only [Addr.mk.injEq] at e; omega
  have sset : ∀ (W : World) (a : Addr) (v : Value), (W.setCell a v).heap.size = W.heap.size := fun W a v => by simp
  refine ⟨?_, ?_, ?_, ?_, fun j hj => ?_, ?_, by omega, by omega, by omega, ?_⟩
  · rw [World.cell?_setCell_other _ _ _ _ (ne 3 0 (by decide)), World.cell?_setCell_other _ _ _ _ (ne 2 0 (by decide)), World.cell?_setCell_other _ _ _ _ (ne 1 0 (by decide))]
    exact World.cell?_setCell_same _ _ _ f0
  · rw [World.cell?_setCell_other _ _ _ _ (ne 3 1 (by decide)), World.cell?_setCell_other _ _ _ _ (ne 2 1 (by decide))]
    exact World.cell?_setCell_same _ _ _ (by rw [World.cell?_setCell_other _ _ _ _ (ne 0 1 (by decide))]; exact f1)
  · rw [World.cell?_setCell_other _ _ _ _ (ne 3 2 (by decide))]
    exact World.cell?_setCell_same _ _ _ (by rw [World.cell?_setCell_other _ _ _ _ (ne 1 2 (by decide)), World.cell?_setCell_other _ _ _ _ (ne 0 2 (by decide))]; exact f2)
  · exact World.cell?_setCell_same _ _ _ (by rw [World.cell?_setCell_other _ _ _ _ (ne 2 3 (by decide)), World.cell?_setCell_other _ _ _ _ (ne 1 3 (by decide)), World.cell?_setCell_other _ _ _ _ (ne 0 3 (by decide))]; exact f3)
  · rw [World.cell?_setCell_other _ _ _ _ (nb 3 j), World.cell?_setCell_other _ _ _ _ (nb 2 j), World.cell?_setCell_other _ _ _ _ (nb 1 j), World.cell?_setCell_other _ _ _ _ (nb 0 j), World.frozen?_setCell, World.frozen?_setCell, World.frozen?_setCell, World.frozen?_setCell,
      hbel.cell (p := ⟨w.heap.size, j, none⟩) (by rw [e]; show w.heap.size < w.heap.size + 2; omega), hbel.frozen (p := ⟨w.heap.size, j, none⟩) (by rw [e]; show w.heap.size < w.heap.size + 2; omega)]
    match j, hj with
    | 0, _ => simp [zeroM, World.cell?_alloc_past]
    | 1, _ => simp [zeroM, World.cell?_alloc_past]
    | 2, _ => simp [zeroM, World.cell?_alloc_past]
    | 3, _ => simp [zeroM, World.cell?_alloc_past]
  · rw [e] at hown
    obtain ⟨xs, ho, hx⟩ := own_cells hown
    refine ⟨xs, own_mono ?_ (Nat.le_succ (w.heap.size + 1)), hx⟩
    exact ownsRow_setCell_below (ownsRow_setCell_below (ownsRow_setCell_below (ownsRow_setCell_below ho (Nat.lt_succ_self _) _) (Nat.lt_succ_self _) _) (Nat.lt_succ_self _) _) (Nat.lt_succ_self _) _
  · exact (((((below2 w zeroM zeroM).trans (hbel.mono (by omega))).setCell (by show w.heap.size ≤ w.heap.size + 1; omega) _).setCell (by show w.heap.size ≤ w.heap.size + 1; omega) _).setCell (by show w.heap.size ≤ w.heap.size + 1; omega) _).setCell (by show w.heap.size ≤ w.heap.size + 1; omega) _

end Go.Proofs.Qxb6630826a
