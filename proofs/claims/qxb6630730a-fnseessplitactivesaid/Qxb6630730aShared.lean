import Derived.Test.Qxb6630730aView
import Derived.Deep.RegionHeld3
import Derived.Shelf.SlSortCmp.QuietGrown
import Derived.WideShapes
namespace Go.Proofs.Qxb6630730a
open Go.RowKit

/-- The ids of a view, in memory. -/
def IdsAt (W : World) (g : Nat) (ids : List Int) : Prop := ∀ j, j < ids.length → W.cell? ⟨g, 0 + j, none⟩ = some (.int .u64 (ids.getD j 0))

theorem idsAt_of {W : World} {B g cap n : Nat} {ids : List Int} (h : W.ownsRow B 26 1 (.slice (some ⟨g, 0, none⟩) n cap) n (ids.map (Value.int .u64))) : IdsAt W g ids := by
  intro j hj
  have := h.cells (g := g) rfl j (.int .u64 (ids.getD j 0)) (by simp [List.getElem?_eq_getElem hj, List.getD])
  rw [← Go.WideShapes.add_plain]
  exact this

theorem IdsAt.below {W W' : World} {g : Nat} {ids : List Int} (h : IdsAt W g ids) {B : Nat} (hb : Below B W W') (hg : g < B) : IdsAt W' g ids :=
  fun j hj => (hb.cell (p := ⟨g, 0 + j, none⟩) hg).trans (h j hj)

/-- The cells of an argument. -/
def RowAt (W : World) (b off n : Nat) (zs : List Int) : Prop := ∀ j, j < n → W.cell? ⟨b, off + j, none⟩ = some (.int .u64 (zs.getD j 0))
theorem RowAt.below {W W' : World} {b off n : Nat} {zs : List Int} (h : RowAt W b off n zs) {B : Nat} (hb : Below B W W') (hg : b < B) : RowAt W' b off n zs :=
  fun j hj => (hb.cell (p := ⟨b, off + j, none⟩) hg).trans (h j hj)

theorem ids8i (a : Option Addr) (b off n c start stop m : Nat) (s t skip : Int) (zs G : List Int) (w : World) (hs : s = (start : Int)) (ht : t = (stop : Int)) (hm : stop - start = m) (hG : Plain.gather zs start skip m = G) (ha : 0 < n → a = some ⟨b, off, none⟩) (hn : n ≤ 65536) (hb : 0 < n → b < w.heap.size)
    (hst : start ≤ stop) (hsn : stop ≤ n) (hc : RowAt w b off n zs) :
    Calls Try.prog 8 #[.slice a n c, .int .i64 s, .int .i64 t, .int .i64 skip] w fun e w' =>
      e = .returned (.slice (some ⟨w.heap.size, 0, none⟩) G.length m) ∧
        IdsAt w' w.heap.size G ∧ Below w.heap.size w w' ∧ w.heap.size < w'.heap.size := by
  subst hs; subst ht; subst hm; subst hG
  refine (ids8 a b off n c start stop skip zs w ha hn hb hst hsn hc).mono ?_
  rintro e w' ⟨h1, h2, h3, h4⟩
  exact ⟨h1, idsAt_of h2, h3, h4⟩

theorem view7i (c : Int) (g cap : Nat) (ids : List Int) (next low : Int) (u : Bool) (w : World) (hlow : Plain.lowOf ids next = low) (hn : ids.length ≤ 65536) (hg : g < w.heap.size) (hc : IdsAt w g ids) :
    Calls Try.prog 7 #[.int .u64 c, .slice (some ⟨g, 0, none⟩) ids.length cap, .int .u64 next, .bool u] w fun e w' =>
      e = .returned (.agg #[.int .u64 c, .slice (some ⟨g, 0, none⟩) ids.length cap, .int .u64 low, .int .u64 next, .bool u]) ∧ Below w.heap.size w w' := by
  subst hlow
  exact view7 c g ids.length cap next (ids.getD 0 0) u w hn hg (fun h => hc 0 h)

/-- Sees, in whatever world has come of W by draws and new blocks. -/
theorem sees9g (c low next x : Int) (u r : Bool) (g cap : Nat) (ids : List Int) (W : World) (hl : ids.length ≤ 65536) (hg : g < W.heap.size) (hc : IdsAt W g ids) (hs : ids.Pairwise (· < ·)) (hr : Plain.sees c ids low next u x = r) (n : Nat) (os : Array Obj) :
    Calls Try.prog 9 #[.agg #[.int .u64 c, .slice (some ⟨g, 0, none⟩) ids.length cap, .int .u64 low, .int .u64 next, .bool u], .int .u64 x] (Sort.grow (W.drewN n) os) fun e w'' =>
      e = .returned (.bool r) ∧ ∃ p : GrownBy, w'' = Sort.grow (W.drewN p.n) p.os := by
  subst hr
  refine Calls.grown_of ((sees9 c low next x u g cap ids (Sort.grow (W.drewN n) os) hl ?_ ?_ hs).mono ?_)
  · simp; omega
  · intro j hj
    exact cell_grown (a := ⟨g, 0 + j, none⟩) hg (hc j hj) n os
  · rintro e w' ⟨rfl, q, rfl⟩
    exact ⟨rfl, q, #[.cells #[.int .u64 c, .slice (some ⟨g, 0, none⟩) ids.length cap, .int .u64 low, .int .u64 next, .bool u] 29], by rw [← Sort.alloc_eq_grow]; rfl⟩

theorem below_grow (B : Nat) (w : World) (hB : B ≤ w.heap.size) (k : Nat) (os : Array Obj) : Below B w (Sort.grow (w.drewN k) os) :=
  ⟨rfl, rfl, rfl, by simp, fun j hj => Sort.heap_grow_old (w.drewN k) os (by show j < w.heap.size; omega)⟩

/-- A view, in memory. -/
structure ViewAt (W : World) (V g cap : Nat) (ids : List Int) (c low next : Int) (u : Bool) : Prop where
  h0 : W.cell? ⟨V, 0, none⟩ = some (.int .u64 c)
  h1 : W.cell? ⟨V, 1, none⟩ = some (.slice (some ⟨g, 0, none⟩) ids.length cap)
  h2 : W.cell? ⟨V, 2, none⟩ = some (.int .u64 low)
  h3 : W.cell? ⟨V, 3, none⟩ = some (.int .u64 next)
  h4 : W.cell? ⟨V, 4, none⟩ = some (.bool u)
theorem ViewAt.new (w : World) (g cap : Nat) (ids : List Int) (c low next : Int) (u : Bool) : ViewAt (w.alloc (.cells #[.int .u64 c, .slice (some ⟨g, 0, none⟩) ids.length cap, .int .u64 low, .int .u64 next, .bool u] 29)) w.heap.size g cap ids c low next u :=
  ⟨by simp, by simp, by simp, by simp, by simp⟩
theorem ViewAt.below {W W' : World} {V g cap : Nat} {ids : List Int} {c low next : Int} {u : Bool} (h : ViewAt W V g cap ids c low next u) {B : Nat} (hb : Below B W W') (hV : V < B) : ViewAt W' V g cap ids c low next u :=
  ⟨(hb.cell (p := ⟨V, 0, none⟩) hV).trans h.h0, (hb.cell (p := ⟨V, 1, none⟩) hV).trans h.h1, (hb.cell (p := ⟨V, 2, none⟩) hV).trans h.h2, (hb.cell (p := ⟨V, 3, none⟩) hV).trans h.h3, (hb.cell (p := ⟨V, 4, none⟩) hV).trans h.h4⟩
theorem ViewAt.grown {W : World} {V g cap : Nat} {ids : List Int} {c low next : Int} {u : Bool} (h : ViewAt W V g cap ids c low next u) (hV : V < W.heap.size) (n : Nat) (os : Array Obj) : ViewAt (Sort.grow (W.drewN n) os) V g cap ids c low next u :=
  ⟨cell_grown (a := ⟨V, 0, none⟩) hV h.h0 n os, cell_grown (a := ⟨V, 1, none⟩) hV h.h1 n os, cell_grown (a := ⟨V, 2, none⟩) hV h.h2 n os, cell_grown (a := ⟨V, 3, none⟩) hV h.h3 n os, cell_grown (a := ⟨V, 4, none⟩) hV h.h4 n os⟩

end Go.Proofs.Qxb6630730a
