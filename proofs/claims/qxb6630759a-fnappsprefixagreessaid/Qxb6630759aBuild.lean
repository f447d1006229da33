import Derived.Test.Qxb6630759aGuard
import Derived.Deep.DeepCutAuto
import Derived.RegionTactic
import Derived.BigRegion
import Derived.Laws.OwnMore
import Derived.WalkSmall
namespace Go.Proofs.Qxb6630759a
open Go.RowKit
set_option linter.unusedVariables false

theorem info38 : (Try.prog.info? 38).map (fun i => (i.zero, i.size, i.bytes)) = some (some (.agg #[.string ByteArray.empty, .string ByteArray.empty]), 2, 32) := by kernel_rfl

theorem grown_none {w w' : World} (h : w.grownBy w' none) (b o : Nat) (hb : b < w.heap.size) : w'.cell? ⟨b, o, none⟩ = w.cell? ⟨b, o, none⟩ ∧ w'.frozen? ⟨b, o, none⟩ = w.frozen? ⟨b, o, none⟩ :=
  ⟨World.cell?_of_block (h.block b hb (by simp)), World.frozen?_of_block (h.block b hb (by simp))⟩

/-- The Trace that is being built, at block B = w.heap.size: its Functions, the first k of them filled. -/
structure InF (w wr : World) (n k : Nat) (p q : Nat → ByteArray) : Prop where
  c0 : wr.cell? ⟨w.heap.size, 0, none⟩ = some (.slice (some ⟨w.heap.size + 1, 0, none⟩) n n)
  c1 : wr.cell? ⟨w.heap.size, 1, none⟩ = some (.slice none 0 0)
  f0 : wr.frozen? ⟨w.heap.size, 0, none⟩ = false
  f1 : wr.frozen? ⟨w.heap.size, 1, none⟩ = false
  own : ∃ xs, wr.ownsRow (w.heap.size + 1) 38 2 (.slice (some ⟨w.heap.size + 1, 0, none⟩) n n) n xs ∧ ∀ j, j < k → xs[j * 2]? = some (.string (p j)) ∧ xs[j * 2 + 1]? = some (.string (q j))
  bel : Below w.heap.size w wr

theorem InF.cells {w wr : World} {n k : Nat} {p q : Nat → ByteArray} (h : InF w wr n k p q) (j : Nat) (hj : j < n * 2) : (∃ v, wr.cell? ⟨w.heap.size + 1, j, none⟩ = some v) ∧ wr.frozen? ⟨w.heap.size + 1, j, none⟩ = false := by
  obtain ⟨xs, ho, _⟩ := h.own
  refine ⟨⟨xs[j]'(by rw [ho.1]; exact hj), ?_⟩, ho.frozenAt j⟩
  rw [ho.cellAt j hj]
  exact List.getElem?_eq_getElem _

theorem InF.step {w wr : World} {n k : Nat} {p q : Nat → ByteArray} (h : InF w wr n k p q) (hk : k < n) (d : Nat) :
    InF w (((wr.setCell ⟨w.heap.size + 1, k * 2, none⟩ (.string (p k))).setCell ⟨w.heap.size + 1, k * 2 + 1, none⟩ (.string (q k))).drewN d) n (k + 1) p q := by
  obtain ⟨xs, ho, hx⟩ := h.own
  obtain ⟨o1, g1⟩ := ho.stored (k * 2) (.string (p k))
  obtain ⟨o2, g2⟩ := o1.stored (k * 2 + 1) (.string (q k))
  have hl : xs.length = n * 2 := ho.1
  have hne : ∀ o : Nat, (some (w.heap.size) : Option Nat) ≠ some (w.heap.size + 1) := fun _ e => by simp at e
  refine ⟨?_, ?_, ?_, ?_, ⟨_, o2, fun j hj => ?_⟩, ?_⟩
  · exact g2.cell (g1.cell h.c0 (hne 0)) (hne 0)
  · exact g2.cell (g1.cell h.c1 (hne 0)) (hne 0)
  · simpa using h.f0
  · simpa using h.f1
  · by_cases e : j = k
    · subst e
      refine ⟨?_, ?_⟩
      · rw [List.getElem?_set_ne (by omega), List.getElem?_set_self (by omega)]
      · rw [List.getElem?_set_self (by simp; omega)]
    · obtain ⟨h1, h2⟩ := hx j (by omega)
      refine ⟨?_, ?_⟩
      · rw [List.getElem?_set_ne (by omega), List.getElem?_set_ne (by omega)]; exact h1
      · rw [List.getElem?_set_ne (by omega), List.getElem?_set_ne (by omega)]; exact h2
  · exact Go.below_drewN ((h.bel.setCell (by simp) _).setCell (by simp) _) d

/-- The Trace behind the first half: its Functions are there. -/
structure BF (w wr : World) (n : Nat) (p q : Nat → ByteArray) (av : Option Addr) (g : Nat) : Prop where
  c0 : wr.cell? ⟨w.heap.size, 0, none⟩ = some (.slice av n n)
  ha : 0 < n → av = some ⟨g, 0, none⟩
  hg : 0 < n → w.heap.size < g ∧ g < wr.heap.size
  pairs : Pairs wr g 0 n p q
  c1 : ∃ x l, wr.cell? ⟨w.heap.size, 1, none⟩ = some (.slice x l l)
  f1 : wr.frozen? ⟨w.heap.size, 1, none⟩ = false
  bel : Below w.heap.size w wr
  sz : w.heap.size < wr.heap.size

theorem InF.done {w wr : World} {n : Nat} {p q : Nat → ByteArray} (h : InF w wr n n p q) : BF w wr n p q (some ⟨w.heap.size + 1, 0, none⟩) (w.heap.size + 1) := by
  obtain ⟨xs, ho, hx⟩ := h.own
  refine ⟨h.c0, fun _ => rfl, fun _ => ⟨by omega, (ho.lt _ rfl).2⟩, fun j hj => ?_, ⟨_, _, h.c1⟩, h.f1, h.bel, World.block_lt_of_cell? _ _ h.c0⟩
  obtain ⟨h1, h2⟩ := hx j hj
  rw [Nat.zero_add]
  exact ⟨(ho.cellAt _ (by omega)).trans h1, (ho.cellAt _ (by omega)).trans h2⟩

theorem BF.keep {w wr wr' : World} {n : Nat} {p q : Nat → ByteArray} {av : Option Addr} {g hh : Nat} (h : BF w wr n p q av g) (hg : wr.grownBy wr' (some hh)) (h1 : w.heap.size < hh) (h2 : 0 < n → g < hh) : BF w wr' n p q av g := by
  have hne : (some (w.heap.size) : Option Nat) ≠ some hh := fun e => by simp at e; omega
  obtain ⟨x, l, c1⟩ := h.c1
  refine ⟨hg.cell h.c0 hne, h.ha, fun h0 => ⟨(h.hg h0).1, Nat.lt_of_lt_of_le (h.hg h0).2 hg.size⟩, fun j hj => ?_, ⟨x, l, hg.cell c1 hne⟩, ?_, h.bel.grown hg (Nat.le_of_lt h.sz) (fun k hk => by cases hk; omega), Nat.lt_of_lt_of_le h.sz hg.size⟩
  · have hne2 : (some g : Option Nat) ≠ some hh := fun e => by have := h2 (by omega); simp at e; omega
    exact ⟨hg.cell (h.pairs j hj).1 hne2, hg.cell (h.pairs j hj).2 hne2⟩
  · exact (World.frozen?_of_block (a := ⟨w.heap.size, 1, none⟩) (hg.block _ h.sz hne)).trans h.f1

theorem BF.keepNone {w wr wr' : World} {n : Nat} {p q : Nat → ByteArray} {av : Option Addr} {g : Nat} (h : BF w wr n p q av g) (hg : wr.grownBy wr' none) : BF w wr' n p q av g := by
  have hne : ∀ x : Nat, (some x : Option Nat) ≠ none := fun _ e => by cases e
  obtain ⟨x, l, c1⟩ := h.c1
  refine ⟨hg.cell h.c0 (hne _), h.ha, fun h0 => ⟨(h.hg h0).1, Nat.lt_of_lt_of_le (h.hg h0).2 hg.size⟩, fun j hj => ?_, ⟨x, l, hg.cell c1 (hne _)⟩, ?_, h.bel.grown hg (Nat.le_of_lt h.sz) (fun k hk => by cases hk), Nat.lt_of_lt_of_le h.sz hg.size⟩
  · exact ⟨hg.cell (h.pairs j hj).1 (hne _), hg.cell (h.pairs j hj).2 (hne _)⟩
  · exact (World.frozen?_of_block (a := ⟨w.heap.size, 1, none⟩) (hg.block _ h.sz (hne _))).trans h.f1

theorem BF.invs {w wr : World} {n : Nat} {p q : Nat → ByteArray} {av : Option Addr} {g : Nat} (h : BF w wr n p q av g) (x : Option Addr) (l : Nat) : BF w (wr.setCell ⟨w.heap.size, 1, none⟩ (.slice x l l)) n p q av g := by
  obtain ⟨x0, l0, c1⟩ := h.c1
  refine ⟨?_, h.ha, fun h0 => ⟨(h.hg h0).1, by simpa using (h.hg h0).2⟩, fun j hj => ?_, ⟨x, l, World.cell?_setCell_same _ _ _ c1⟩, by simpa using h.f1, h.bel.setCell (by simp) _, by simpa using h.sz⟩
  · rw [World.cell?_setCell_other _ _ _ _ (by simp)]; exact h.c0
  · have := (h.hg (by omega)).1
    rw [World.cell?_setCell_other _ _ _ _ (fun e => by simp only [Addr.mk.injEq] at e; omega), World.cell?_setCell_other _ _ _ _ (fun e => by simp only [Addr.mk.injEq] at e; omega)]
    exact h.pairs j hj

/-- Behind make([]Invocation, m): block h holds m of them. -/
structure InI (w wr : World) (n : Nat) (p q : Nat → ByteArray) (av : Option Addr) (g h m : Nat) : Prop where
  bf : BF w wr n p q av g
  hB : w.heap.size < h
  hg : 0 < n → g < h
  c1 : wr.cell? ⟨w.heap.size, 1, none⟩ = some (.slice (some ⟨h, 0, none⟩) m m)
  own : ∃ xs, wr.ownsRow h 42 3 (.slice (some ⟨h, 0, none⟩) m m) m xs

theorem InI.cells {w wr : World} {n : Nat} {p q : Nat → ByteArray} {av : Option Addr} {g hh m : Nat} (h : InI w wr n p q av g hh m) (j : Nat) (hj : j < m * 3) : (∃ v, wr.cell? ⟨hh, j, none⟩ = some v) ∧ wr.frozen? ⟨hh, j, none⟩ = false := by
  obtain ⟨xs, ho⟩ := h.own
  refine ⟨⟨xs[j]'(by rw [ho.1]; exact hj), ?_⟩, ho.frozenAt j⟩
  rw [ho.cellAt j hj]
  exact List.getElem?_eq_getElem _

theorem InI.store {w wr : World} {n : Nat} {p q : Nat → ByteArray} {av : Option Addr} {g hh m : Nat} (h : InI w wr n p q av g hh m) (j : Nat) (v : Value) : InI w (wr.setCell ⟨hh, j, none⟩ v) n p q av g hh m := by
  obtain ⟨xs, ho⟩ := h.own
  obtain ⟨o1, g1⟩ := ho.stored j v
  have hne : (some (w.heap.size) : Option Nat) ≠ some hh := fun e => by have := h.hB; simp at e; omega
  exact ⟨h.bf.keep g1 h.hB h.hg, h.hB, h.hg, g1.cell h.c1 hne, ⟨_, o1⟩⟩

theorem InI.drew {w wr : World} {n : Nat} {p q : Nat → ByteArray} {av : Option Addr} {g hh m : Nat} (h : InI w wr n p q av g hh m) : InI w wr.drew n p q av g hh m := by
  obtain ⟨xs, ho⟩ := h.own
  exact ⟨h.bf.keepNone ⟨rfl, rfl, rfl, Nat.le_refl _, fun _ _ _ => rfl⟩, h.hB, h.hg, h.c1, ⟨xs, ho.drew⟩⟩

/-- A row of m invocations. -/
def Trips (W : World) (b off m : Nat) (zi : Nat → Int) (xf yf : Nat → Nat) : Prop :=
  ∀ j, j < m → W.cell? ⟨b, off + j * 3, none⟩ = some (.int .i64 (zi j)) ∧ W.cell? ⟨b, off + j * 3 + 1, none⟩ = some (.float .f64 (xf j)) ∧ W.cell? ⟨b, off + j * 3 + 2, none⟩ = some (.float .f64 (yf j))

/-- A float is one cell: the walk's own set has this for the other kinds. -/
theorem run_store_float (P : Program) (w : World) (a : Addr) (m : Mode) (k : FloatKind) (x : Nat) : (store a (.float k x) m).run P w = stored P w a (.float k x) m := run_store P w a _ m rfl
attribute [local go_sem] run_store_float

theorem info42 : (Try.prog.info? 42).map (fun i => (i.zero.isSome, i.size, i.bytes)) = some (true, 3, 24) := by kernel_rfl
theorem info42_parts : ∃ i z, Try.prog.info? 42 = some i ∧ i.zero = some z ∧ i.size = 3 ∧ i.bytes = 24 := by
  have h := info42
  rcases hx : Try.prog.info? 42 with _ | i
  · rw [hx] at h; cases h
  · rw [hx] at h
    simp only [Option.map_some, Option.some.injEq, Prod.mk.injEq] at h
    obtain ⟨z, hz⟩ := Option.isSome_iff_exists.1 h.1
    exact ⟨i, z, rfl, hz, h.2.1, h.2.2⟩

set_option maxHeartbeats 4000000 in
theorem build7 (a0 : Option Addr) (a1 : Option Addr) (b off n c0 m c1 : Nat) (p q : Nat → ByteArray) (w : World) (h0 : a0 = none → n = 0) (ha : 0 < n → a0 = some ⟨b, off, none⟩) (hn : n ≤ 4096) (hm : m ≤ 4096) (hb : 0 < n → b < w.heap.size) (hc : Pairs w b off n p q)
    (b1 off1 : Nat) (zi : Nat → Int) (xf yf : Nat → Nat) (h1 : a1 = none → m = 0) (ha1 : 0 < m → a1 = some ⟨b1, off1, none⟩) (hb1 : 0 < m → b1 < w.heap.size) (hc1 : Trips w b1 off1 m zi xf yf) :
    Calls Try.prog 7 #[.slice a0 n c0, .slice a1 m c1] w fun e w' => e = .returned (.pointer (some ⟨w.heap.size, 0, none⟩)) ∧ ∃ av g, BF w w' n p q av g := by
  obtain ⟨i0, hi, hz0, hz1, hz2⟩ := info_parts info38
  obtain ⟨i1, zz1, hi1, hz01, hz11, hz21⟩ := info42_parts
  have H1 : Aside (a1 = none → m = 0) := h1
  have HA1 : Aside (0 < m → a1 = some ⟨b1, off1, none⟩) := ha1
  have HB1 : Aside (0 < m → b1 < w.heap.size) := hb1
  have HC1 : Aside (Trips w b1 off1 m zi xf yf) := hc1
  clear h1 ha1 hb1 hc1
  have hne1 := fun w => run_neq_slice_nil_any (P := Try.prog) w 23 41 a1 m c1 0 0 Try.underlying23
  have HA : Aside (0 < n → a0 = some ⟨b, off, none⟩) := ha
  have H0 : Aside (a0 = none → n = 0) := h0
  have HB : Aside (0 < n → b < w.heap.size) := hb
  have HC : Aside (Pairs w b off n p q) := hc
  clear ha hc hb h0
  have hne := fun w => run_neq_slice_nil_any (P := Try.prog) w 22 28 a0 n c0 0 0 Try.underlying22
  go_enter Try.func7, Try.ntmps7
  go_upto_if 11 with (fail)
  go_cut [5] (fun t wr => t = .pointer (some ⟨w.heap.size, 0, none⟩) ∧ ∃ av g, BF w wr n p q av g)
  case first =>
    rcases a0 with _ | a0
    · have e : n = 0 := H0.out rfl
      subst e
      go_wp2
      go_meet
      refine ⟨rfl, none, 0, ?_, fun h => absurd h (Nat.lt_irrefl _), fun h => absurd h (Nat.lt_irrefl _), fun j hj => absurd hj (Nat.not_lt_zero _), ⟨none, 0, ?_⟩, ?_, (Below.refl _ _).alloc (Nat.le_refl _) _, ?_⟩
      all_goals simp
    · go_wp2_with (at_make; refine wpList_make_full _ rfl _ _ 34 rfl (w.heap.size + 1) 38 i0 _ 2 Try.underlying34 hi hz0 hz1 _ _ _ _ n rfl rfl (by omega) (by omega) (by rw [hz2]; omega) (by unfold maxLen; omega) (by simp) ?_; intro w1 hown hgrow; obtain ⟨k0, f0⟩ := grown_none hgrow w.heap.size 0 (by simp); obtain ⟨k1, f1⟩ := grown_none hgrow w.heap.size 1 (by simp); simp at k0 f0 k1 f1)
      have I0 : InF w (w1.setCell ⟨w.heap.size, 0, none⟩ (.slice (some ⟨w.heap.size + 1, 0, none⟩) n n)) n 0 p q := by
        have hown' : w1.ownsRow (w.heap.size + 1) 38 2 (.slice (some ⟨w.heap.size + 1, 0, none⟩) n n) n (madeCells (Value.agg #[.string ByteArray.empty, .string ByteArray.empty]).cells (n * 2)).toList := by simpa using hown
        refine ⟨?_, ?_, ?_, ?_, ⟨_, ownsRow_setCell_below hown' (by simp) _, fun j hj => absurd hj (Nat.not_lt_zero _)⟩, ?_⟩
        · exact World.cell?_setCell_same _ _ _ k0
        · rw [World.cell?_setCell_other _ _ _ _ (by simp)]; exact k1
        · simpa using f0
        · simpa using f1
        · exact ((((Below.refl _ _).alloc (Nat.le_refl _) _).grown hgrow (by simp) (fun j hj => by cases hj)).setCell (by simp) _)
      clear hown hgrow k0 f0 k1 f1
      generalize w1.setCell ⟨w.heap.size, 0, none⟩ (.slice (some ⟨w.heap.size + 1, 0, none⟩) n n) = w2 at I0 ⊢
      go_loopw [6] (fun i wr => ∃ k : Nat, k ≤ n ∧ i = .int .i64 k ∧ InF w wr n k p q) (fun i _ => n - (intOf i).toNat)
      case atStart => exact ⟨0, Nat.zero_le _, rfl, I0⟩
      case round =>
        obtain ⟨k, hk, rfl, hI⟩ := hrel
        by_cases hlt : k < n
        · have ha := HA.out (by omega)
          rw [Option.some.injEq] at ha
          subst ha
          have hb := HB.out (by omega)
          obtain ⟨ck, dk⟩ := HC.out k hlt
          have ck' := (hI.bel.cell (p := ⟨b, off + k * 2, none⟩) hb).trans ck
          have dk' := (hI.bel.cell (p := ⟨b, off + k * 2 + 1, none⟩) hb).trans dk
          have c0 := hI.c0
          obtain ⟨⟨v0, r0⟩, s0⟩ := hI.cells (k * 2) (by omega)
          obtain ⟨⟨v1, r1⟩, s1⟩ := hI.cells (k * 2 + 1) (by omega)
          have hki : (k : Int) < (n : Int) := by omega
          have IS : Aside (∀ d, InF w (((wr.setCell ⟨w.heap.size + 1, k * 2, none⟩ (.string (p k))).setCell ⟨w.heap.size + 1, k * 2 + 1, none⟩ (.string (q k))).drewN d) n (k + 1) p q) := fun d => hI.step hlt d
          clear ck dk hI
          go_wp2
          go_region
          go_wp2
          go_roundw
          case rel => exact ⟨k + 1, by omega, by go_num, IS.out 1⟩
          case measure => simp [intOf]; omega
        · have e : k = n := by omega
          subst e
          go_wp2
          go_meet
          exact ⟨rfl, _, _, hI.done⟩
  case rest =>
    obtain ⟨rfl, av, g, hF⟩ := hcut
    rcases a1 with _ | a1
    · go_wp2
      go_ret
      exact ⟨rfl, av, g, hF⟩
    · obtain ⟨x0, l0, hc1⟩ := hF.c1
      have hf1 := hF.f1
      have hsz := hF.sz
      go_wp2_with (at_make; refine wpList_make_full _ rfl _ _ 35 rfl wc.heap.size 42 i1 _ 3 Try.underlying35 hi1 hz01 hz11 _ _ _ _ m rfl rfl (by omega) (by omega) (by rw [hz21]; omega) (by unfold maxLen; omega) (Nat.le_refl _) ?_; intro w1 hown hgrow; obtain ⟨k1, f1⟩ := grown_none hgrow w.heap.size 1 hsz)
      have I0 : InI w (w1.setCell ⟨w.heap.size, 1, none⟩ (.slice (some ⟨wc.heap.size, 0, none⟩) m m)) n p q av g wc.heap.size m := by
        refine ⟨(hF.keepNone hgrow).invs _ _, hsz, fun h => (hF.hg h).2, World.cell?_setCell_same _ _ _ (k1.trans hc1), ⟨_, ownsRow_setCell_below hown (by simpa using hsz) _⟩⟩
      clear hown hgrow k1 f1 hF hc1 hf1
      generalize w1.setCell ⟨w.heap.size, 1, none⟩ (.slice (some ⟨wc.heap.size, 0, none⟩) m m) = w2 at I0 ⊢
      generalize wc.heap.size = hh at I0 ⊢
      go_loopw [7] (fun i wr => ∃ k : Nat, k ≤ m ∧ i = .int .i64 k ∧ InI w wr n p q av g hh m) (fun i _ => m - (intOf i).toNat)
      case atStart => exact ⟨0, Nat.zero_le _, rfl, I0⟩
      case round =>
        obtain ⟨k, hk, rfl, hI⟩ := hrel
        by_cases hlt : k < m
        · have ha := HA1.out (by omega)
          rw [Option.some.injEq] at ha
          subst ha
          have hb := HB1.out (by omega)
          obtain ⟨ck, dk, ek⟩ := HC1.out k hlt
          have ck' := (hI.bf.bel.cell (p := ⟨b1, off1 + k * 3, none⟩) hb).trans ck
          have dk' := (hI.bf.bel.cell (p := ⟨b1, off1 + k * 3 + 1, none⟩) hb).trans dk
          have ek' := (hI.bf.bel.cell (p := ⟨b1, off1 + k * 3 + 2, none⟩) hb).trans ek
          have c1 := hI.c1
          obtain ⟨⟨v0, r0⟩, s0⟩ := hI.cells (k * 3) (by omega)
          obtain ⟨⟨v1, r1⟩, s1⟩ := hI.cells (k * 3 + 1) (by omega)
          obtain ⟨⟨v2, r2⟩, s2⟩ := hI.cells (k * 3 + 2) (by omega)
          have hki : (k : Int) < (m : Int) := by omega
          have IS : Aside (InI w ((((wr.setCell ⟨hh, k * 3, none⟩ (.int .i64 (zi k))).setCell ⟨hh, k * 3 + 1, none⟩ (.float .f64 (xf k))).setCell ⟨hh, k * 3 + 2, none⟩ (.float .f64 (yf k))).drew) n p q av g hh m) := (((hI.store _ _).store _ _).store _ _).drew
          clear ck dk ek hI
          go_wp2
          go_region
          go_wp2
          go_roundw
          case rel => exact ⟨k + 1, by omega, by go_num, IS.out⟩
          case measure => simp [intOf]; omega
        · go_wp2
          go_ret
          exact ⟨rfl, av, g, hI.bf⟩
end Go.Proofs.Qxb6630759a
