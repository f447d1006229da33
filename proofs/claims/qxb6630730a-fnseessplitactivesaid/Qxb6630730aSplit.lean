import Derived.Test.Qxb6630730aShared
namespace Go.Proofs.Qxb6630730a
open Go.RowKit

/-- A view and its ids, in memory. -/
structure VW (W : World) (V g cap : Nat) (ids : List Int) (c low next : Int) (u : Bool) : Prop where
  v : ViewAt W V g cap ids c low next u
  i : IdsAt W g ids
  hV : V < W.heap.size
  hg : g < W.heap.size
theorem VW.below {W W' : World} {V g cap : Nat} {ids : List Int} {c low next : Int} {u : Bool} (h : VW W V g cap ids c low next u) (hb : Below W.heap.size W W') : VW W' V g cap ids c low next u :=
  ⟨h.v.below hb h.hV, h.i.below hb h.hg, Nat.lt_of_lt_of_le h.hV hb.size, Nat.lt_of_lt_of_le h.hg hb.size⟩

theorem RowAt.below' {W W' : World} {b off n : Nat} {zs : List Int} (h : RowAt W b off n zs) (hb : Below W.heap.size W W') (hg : 0 < n → b < W.heap.size) : RowAt W' b off n zs :=
  fun j hj => (hb.cell (p := ⟨b, off + j, none⟩) (hg (by omega))).trans (h j hj)
theorem later {W W' : World} {b n : Nat} (hb : Below W.heap.size W W') (hg : 0 < n → b < W.heap.size) : 0 < n → b < W'.heap.size :=
  fun h => Nat.lt_of_lt_of_le (hg h) hb.size

/-- One view made: zzIDs, zzView, the variable. -/
theorem made {W w1 w2 : World} {m : Nat} {G : List Int} {c L next : Int} {u : Bool} (I : IdsAt w1 W.heap.size G) (B1 : Below W.heap.size W w1) (S1 : W.heap.size < w1.heap.size) (B2 : Below w1.heap.size w1 w2) :
    VW (w2.alloc (.cells #[.int .u64 c, .slice (some ⟨W.heap.size, 0, none⟩) G.length m, .int .u64 L, .int .u64 next, .bool u] 29)) w2.heap.size W.heap.size m G c L next u ∧
      Below W.heap.size W (w2.alloc (.cells #[.int .u64 c, .slice (some ⟨W.heap.size, 0, none⟩) G.length m, .int .u64 L, .int .u64 next, .bool u] 29)) := by
  have s2 : w1.heap.size ≤ w2.heap.size := B2.size
  have hb : Below w2.heap.size w2 (w2.alloc (.cells #[.int .u64 c, .slice (some ⟨W.heap.size, 0, none⟩) G.length m, .int .u64 L, .int .u64 next, .bool u] 29)) := (Below.refl _ _).alloc (Nat.le_refl _) _
  refine ⟨⟨ViewAt.new w2 W.heap.size m G c L next u, (I.below B2 S1).below hb (by omega), by simp, by simp; omega⟩, ?_⟩
  exact (B1.trans (B2.mono (by omega))).trans (hb.mono (by omega))

/-- zzHas, in whatever world has come of W by draws and new blocks. -/
theorem has10g (r : Bool) (a : Option Addr) (b off n c : Nat) (zs : List Int) (x : Int) (W : World) (ha : 0 < n → a = some ⟨b, off, none⟩) (hn : n ≤ 65536) (hb : 0 < n → b < W.heap.size)
    (hc : RowAt W b off n zs) (hr : r = true ↔ Plain.has zs x n) (m : Nat) (os : Array Obj) :
    Calls Try.prog 10 #[.slice a n c, .int .u64 x] (Sort.grow (W.drewN m) os) fun e w'' => e = .returned (.bool r) ∧ ∃ p : GrownBy, w'' = Sort.grow (W.drewN p.n) p.os := by
  refine (has10 r a b off n c zs x _ ha hn (fun j hj => cell_grown (a := ⟨b, off + j, none⟩) (hb (by omega)) (hc j hj) m os) hr).mono ?_
  rintro e w' ⟨rfl, rfl⟩
  exact ⟨rfl, ⟨m, os⟩, rfl⟩

set_option maxHeartbeats 4000000 in
set_option maxRecDepth 100000 in
theorem split3 (c : Int) (a : Option Addr) (b off n cap : Nat) (zs : List Int) (next : Int) (u : Bool) (cut : Nat) (x : Int) (w : World) (ha : 0 < n → a = some ⟨b, off, none⟩) (hn : n ≤ 65536) (hb : 0 < n → b < w.heap.size) (hk : cut ≤ n)
    (hc : RowAt w b off n zs) (hok : Plain.okTo zs next n) :
    Calls Try.prog 3 #[.int .u64 c, .slice a n cap, .int .u64 next, .bool u, .int .i64 cut, .int .u64 x] w fun e w' => e = .returned (.bool true) ∧ Below w.heap.size w w' := by
  have HO : Aside (Plain.okTo zs next n) := hok
  have HA : Aside (0 < n → a = some ⟨b, off, none⟩) := ha
  have HB : Aside (0 < n → b < w.heap.size) := hb
  obtain ⟨G1, hG1⟩ : ∃ G, Plain.gather zs 0 (-1) n = G := ⟨_, rfl⟩
  obtain ⟨G2, hG2⟩ : ∃ G, Plain.gather zs 0 (-1) cut = G := ⟨_, rfl⟩
  obtain ⟨G3, hG3⟩ : ∃ G, Plain.gather zs cut (-1) (n - cut) = G := ⟨_, rfl⟩
  obtain ⟨G4, hG4⟩ : ∃ G, Plain.gather zs 0 (-1) 0 = G := ⟨_, rfl⟩
  obtain ⟨L1, hL1⟩ : ∃ L, Plain.lowOf G1 next = L := ⟨_, rfl⟩
  obtain ⟨L2, hL2⟩ : ∃ L, Plain.lowOf G2 next = L := ⟨_, rfl⟩
  obtain ⟨L3, hL3⟩ : ∃ L, Plain.lowOf G3 next = L := ⟨_, rfl⟩
  obtain ⟨L4, hL4⟩ : ∃ L, Plain.lowOf G4 next = L := ⟨_, rfl⟩
  have l1 : G1.length ≤ 65536 := by rw [← hG1]; exact Nat.le_trans (Plain.gather_le _ _ _ _) hn
  have l2 : G2.length ≤ 65536 := by rw [← hG2]; exact Nat.le_trans (Plain.gather_le _ _ _ _) (by omega)
  have l3 : G3.length ≤ 65536 := by rw [← hG3]; exact Nat.le_trans (Plain.gather_le _ _ _ _) (by omega)
  have l4 : G4.length ≤ 65536 := by rw [← hG4]; exact Nat.le_trans (Plain.gather_le _ _ _ _) (by omega)
  have p1 : Aside (G1.Pairwise (· < ·)) := by rw [← hG1]; exact Plain.gather_sorted hok 0 (-1) n (by omega)
  have p2 : Aside (G2.Pairwise (· < ·)) := by rw [← hG2]; exact Plain.gather_sorted hok 0 (-1) cut (by omega)
  have p3 : Aside (G3.Pairwise (· < ·)) := by rw [← hG3]; exact Plain.gather_sorted hok cut (-1) (n - cut) (by omega)
  have p4 : Aside (G4.Pairwise (· < ·)) := by rw [← hG4]; exact Plain.gather_sorted hok 0 (-1) 0 (by omega)
  obtain ⟨r2, hr2⟩ : ∃ r, Plain.sees c G2 L2 next u x = r := ⟨_, rfl⟩
  obtain ⟨r3, hr3⟩ : ∃ r, Plain.sees c G3 L3 next u x = r := ⟨_, rfl⟩
  obtain ⟨h, hh⟩ : ∃ r : Bool, (r = true ↔ Plain.has zs x n) := by
    by_cases e : Plain.has zs x n
    · exact ⟨true, by simp [e]⟩
    · exact ⟨false, by simp [e]⟩
  have e1 : Plain.sees c G1 L1 next u x = (r2 && r3) := by
    have := Plain.split_whole hok hk c u x
    unfold Plain.view at this
    rw [hG1, hG2, hG3, hL1, hL2, hL3, hr2, hr3] at this
    exact this
  have e4 : Plain.sees c G4 L4 next u x = (u || ((x == c) || decide (x < next))) := by
    have := Plain.split_empty zs next c u x
    unfold Plain.view at this
    rw [hG4, hL4] at this
    exact this
  have eh : u = false → h = true → ¬ x = c → (r2 && r3) = false := by
    intro h1 h2 h3
    subst h1
    have := Plain.split_hidden hok c x (hh.1 h2) h3
    unfold Plain.view at this
    rw [hG1, hL1, e1] at this
    exact this
  have eu : (u = true ∨ x = c) → r2 = true ∧ r3 = true := by
    intro h1
    rw [← hr2, ← hr3]
    unfold Plain.sees
    rcases h1 with h1 | h1 <;> simp [h1]
  have R1 : Aside (Plain.sees c G1 L1 next u x = (r2 && r3)) := e1
  have R2 : Aside (Plain.sees c G2 L2 next u x = r2) := hr2
  have R3 : Aside (Plain.sees c G3 L3 next u x = r3) := hr3
  have R4 : Aside (Plain.sees c G4 L4 next u x = (u || ((x == c) || decide (x < next)))) := e4
  have RH : Aside (h = true ↔ Plain.has zs x n) := hh
  have EH : Aside (u = false → h = true → ¬ x = c → (r2 && r3) = false) := eh
  have EU : Aside ((u = true ∨ x = c) → r2 = true ∧ r3 = true) := eu
  have HG1 : Aside (Plain.gather zs 0 (-1) n = G1) := hG1
  have HG2 : Aside (Plain.gather zs 0 (-1) cut = G2) := hG2
  have HG3 : Aside (Plain.gather zs cut (-1) (n - cut) = G3) := hG3
  have HG4 : Aside (Plain.gather zs 0 (-1) 0 = G4) := hG4
  have HL1 : Aside (Plain.lowOf G1 next = L1) := hL1
  have HL2 : Aside (Plain.lowOf G2 next = L2) := hL2
  have HL3 : Aside (Plain.lowOf G3 next = L3) := hL3
  have HL4 : Aside (Plain.lowOf G4 next = L4) := hL4
  clear hok ha hb hG1 hG2 hG3 hG4 hL1 hL2 hL3 hL4 hr2 hr3 e1 e4 eh eu hh
  have k0 : ¬ (cut : Int) < 0 := by omega
  have k1 : (cut : Int) ≤ (n : Int) := by omega
  go_enter Try.func3, Try.ntmps3
  go_wp2_with fail
  refine (bytes5_any _ _ _ _ _ _ _ _ _ (by unfold maxLen; omega)).mono ?_
  rintro e w ⟨rfl, rfl⟩
  rw [decide_eq_true (show n ≤ 1048576 by omega)]
  go_wp2_with fail
  refine (sorted6 true _ b off _ _ zs _ _ HA.out hn (by exact hc) ⟨fun _ => HO.out, fun _ => rfl⟩).mono ?_
  rintro e w' ⟨rfl, q, rfl⟩
  have bl0 : Below w.heap.size w (w.drewN q) := by simpa using below_grow w.heap.size w (Nat.le_refl _) q #[]
  have hc0 : RowAt (w.drewN q) b off n zs := hc
  have hb0 : Aside (0 < n → b < (w.drewN q).heap.size) := HB
  clear hc HB
  generalize w.drewN q = W0 at bl0 hc0 hb0 ⊢
  -- the whole
  go_wp2_with fail
  refine (ids8i _ b off _ _ 0 n n _ _ _ zs G1 _ (by rfl) (by rfl) (by first | rfl | omega) HG1.out HA.out hn hb0.out (by omega) (by omega) hc0).mono ?_
  rintro e w1 ⟨rfl, I1, B1, S1⟩
  go_wp2_with fail
  refine (view7i _ _ _ G1 _ L1 _ _ HL1.out l1 S1 I1).mono ?_
  rintro e w2 ⟨rfl, B2⟩
  go_wp2_with fail
  obtain ⟨VW1, BL⟩ := made (m := n) (c := c) (L := L1) (next := next) (u := u) I1 B1 S1 B2
  have bl1 : Below w.heap.size w _ := bl0.trans (BL.mono bl0.size)
  have hcn := hc0.below' BL hb0.out
  have hbn := later BL hb0.out
  clear BL I1 B1 S1 B2 hc0 hb0 bl0 
  generalize w2.alloc (.cells #[.int .u64 c, .slice (some ⟨W0.heap.size, 0, none⟩) G1.length n, .int .u64 L1, .int .u64 next, .bool u] 29) = W1 at VW1 bl1 hcn hbn  ⊢
  generalize w2.heap.size = V1 at VW1 ⊢
  generalize W0.heap.size = g1 at VW1 ⊢
  clear W0 w1 w2
  have hb0 : Aside (0 < n → b < W1.heap.size) := hbn
  have hc0 := hcn
  clear hbn hcn
  -- the left part
  go_wp2_with fail
  refine (ids8i _ b off _ _ 0 cut cut _ _ _ zs G2 _ (by rfl) (by rfl) (by first | rfl | omega) HG2.out HA.out hn hb0.out (by omega) (by omega) hc0).mono ?_
  rintro e w1 ⟨rfl, I1, B1, S1⟩
  go_wp2_with fail
  refine (view7i _ _ _ G2 _ L2 _ _ HL2.out l2 S1 I1).mono ?_
  rintro e w2 ⟨rfl, B2⟩
  go_wp2_with fail
  obtain ⟨VW2, BL⟩ := made (m := cut) (c := c) (L := L2) (next := next) (u := u) I1 B1 S1 B2
  have bl2 : Below w.heap.size w _ := bl1.trans (BL.mono bl1.size)
  have hcn := hc0.below' BL hb0.out
  have hbn := later BL hb0.out
  have X1 := VW1.below BL
  clear BL I1 B1 S1 B2 hc0 hb0 bl1 VW1
  generalize w2.alloc (.cells #[.int .u64 c, .slice (some ⟨W1.heap.size, 0, none⟩) G2.length cut, .int .u64 L2, .int .u64 next, .bool u] 29) = W2 at VW2 bl2 hcn hbn X1 ⊢
  generalize w2.heap.size = V2 at VW2 ⊢
  generalize W1.heap.size = g2 at VW2 ⊢
  clear W1 w1 w2
  have hb0 : Aside (0 < n → b < W2.heap.size) := hbn
  have hc0 := hcn
  clear hbn hcn
  have VW1 := X1
  clear X1
  -- the right part
  go_wp2_with fail
  refine (ids8i _ b off _ _ cut n (n - cut) _ _ _ zs G3 _ (by rfl) (by rfl) (by first | rfl | omega) HG3.out HA.out hn hb0.out (by omega) (by omega) hc0).mono ?_
  rintro e w1 ⟨rfl, I1, B1, S1⟩
  go_wp2_with fail
  refine (view7i _ _ _ G3 _ L3 _ _ HL3.out l3 S1 I1).mono ?_
  rintro e w2 ⟨rfl, B2⟩
  go_wp2_with fail
  obtain ⟨VW3, BL⟩ := made (m := (n - cut)) (c := c) (L := L3) (next := next) (u := u) I1 B1 S1 B2
  have bl3 : Below w.heap.size w _ := bl2.trans (BL.mono bl2.size)
  have hcn := hc0.below' BL hb0.out
  have hbn := later BL hb0.out
  have X1 := VW1.below BL
  have X2 := VW2.below BL
  clear BL I1 B1 S1 B2 hc0 hb0 bl2 VW1 VW2
  generalize w2.alloc (.cells #[.int .u64 c, .slice (some ⟨W2.heap.size, 0, none⟩) G3.length (n - cut), .int .u64 L3, .int .u64 next, .bool u] 29) = W3 at VW3 bl3 hcn hbn X1 X2 ⊢
  generalize w2.heap.size = V3 at VW3 ⊢
  generalize W2.heap.size = g3 at VW3 ⊢
  clear W2 w1 w2
  have hb0 : Aside (0 < n → b < W3.heap.size) := hbn
  have hc0 := hcn
  clear hbn hcn
  have VW1 := X1
  clear X1
  have VW2 := X2
  clear X2
  -- the empty one
  go_wp2_with fail
  refine (ids8i _ b off _ _ 0 0 0 _ _ _ zs G4 _ (by rfl) (by rfl) (by first | rfl | omega) HG4.out HA.out hn hb0.out (by omega) (by omega) hc0).mono ?_
  rintro e w1 ⟨rfl, I1, B1, S1⟩
  go_wp2_with fail
  refine (view7i _ _ _ G4 _ L4 _ _ HL4.out l4 S1 I1).mono ?_
  rintro e w2 ⟨rfl, B2⟩
  have y1 := (VW1.v.below B1 VW1.hV).below B2 (Nat.lt_trans VW1.hV S1)
  have y10 := y1.h0
  have y11 := y1.h1
  have y12 := y1.h2
  have y13 := y1.h3
  have y14 := y1.h4
  have y2 : V1 < w2.heap.size := Nat.lt_of_lt_of_le (Nat.lt_trans VW1.hV S1) B2.size
  go_wp2_with fail
  clear y1 y10 y11 y12 y13 y14 y2
  obtain ⟨VW4, BL⟩ := made (m := 0) (c := c) (L := L4) (next := next) (u := u) I1 B1 S1 B2
  have bl4 : Below w.heap.size w _ := bl3.trans (BL.mono bl3.size)
  have hcn := hc0.below' BL hb0.out
  have hbn := later BL hb0.out
  have X1 := VW1.below BL
  have X2 := VW2.below BL
  have X3 := VW3.below BL
  clear BL I1 B1 S1 B2 hc0 hb0 bl3 VW1 VW2 VW3
  generalize w2.alloc (.cells #[.int .u64 c, .slice (some ⟨W3.heap.size, 0, none⟩) G4.length 0, .int .u64 L4, .int .u64 next, .bool u] 29) = W4 at VW4 bl4 hcn hbn X1 X2 X3 ⊢
  generalize w2.heap.size = V4 at VW4 ⊢
  generalize W3.heap.size = g4 at VW4 ⊢
  clear W3 w1 w2
  have hb0 : Aside (0 < n → b < W4.heap.size) := hbn
  have hc0 := hcn
  clear hbn hcn
  have VW1 := X1
  clear X1
  have VW2 := X2
  clear X2
  have VW3 := X3
  clear X3
  have hcg : RowAt W4 b off n zs := hc0
  have C1 : Aside (∀ n1 os, Calls Try.prog 9 #[.agg #[.int .u64 c, .slice (some ⟨g1, 0, none⟩) G1.length n, .int .u64 L1, .int .u64 next, .bool u], .int .u64 x] (Sort.grow (W4.drewN n1) os) fun e w'' => e = .returned (.bool (r2 && r3)) ∧ ∃ p : GrownBy, w'' = Sort.grow (W4.drewN p.n) p.os) :=
    fun n1 os => sees9g c L1 next x u _ g1 n G1 W4 l1 VW1.hg VW1.i p1.out R1.out n1 os
  have C2 : Aside (∀ n1 os, Calls Try.prog 9 #[.agg #[.int .u64 c, .slice (some ⟨g2, 0, none⟩) G2.length cut, .int .u64 L2, .int .u64 next, .bool u], .int .u64 x] (Sort.grow (W4.drewN n1) os) fun e w'' => e = .returned (.bool r2) ∧ ∃ p : GrownBy, w'' = Sort.grow (W4.drewN p.n) p.os) :=
    fun n1 os => sees9g c L2 next x u _ g2 cut G2 W4 l2 VW2.hg VW2.i p2.out R2.out n1 os
  have C3 : Aside (∀ n1 os, Calls Try.prog 9 #[.agg #[.int .u64 c, .slice (some ⟨g3, 0, none⟩) G3.length (n - cut), .int .u64 L3, .int .u64 next, .bool u], .int .u64 x] (Sort.grow (W4.drewN n1) os) fun e w'' => e = .returned (.bool r3) ∧ ∃ p : GrownBy, w'' = Sort.grow (W4.drewN p.n) p.os) :=
    fun n1 os => sees9g c L3 next x u _ g3 (n - cut) G3 W4 l3 VW3.hg VW3.i p3.out R3.out n1 os
  have C4 : Aside (∀ n1 os, Calls Try.prog 9 #[.agg #[.int .u64 c, .slice (some ⟨g4, 0, none⟩) G4.length 0, .int .u64 L4, .int .u64 next, .bool u], .int .u64 x] (Sort.grow (W4.drewN n1) os) fun e w'' => e = .returned (.bool (u || ((x == c) || decide (x < next)))) ∧ ∃ p : GrownBy, w'' = Sort.grow (W4.drewN p.n) p.os) :=
    fun n1 os => sees9g c L4 next x u _ g4 0 G4 W4 l4 VW4.hg VW4.i p4.out R4.out n1 os
  have CH : Aside (∀ n1 os, Calls Try.prog 10 #[.slice a n cap, .int .u64 x] (Sort.grow (W4.drewN n1) os) fun e w'' => e = .returned (.bool h) ∧ ∃ p : GrownBy, w'' = Sort.grow (W4.drewN p.n) p.os) :=
    fun n1 os => has10g h a b off n cap zs x W4 HA.out hn hb0.out hcg RH.out n1 os
  have Bl : Aside (∀ n1 os, Below w.heap.size w (Sort.grow (W4.drewN n1) os)) := fun n1 os => bl4.trans (below_grow _ _ bl4.size n1 os)
  have a20 := fun n os => (VW2.v.grown VW2.hV n os).h0
  have a21 := fun n os => (VW2.v.grown VW2.hV n os).h1
  have a22 := fun n os => (VW2.v.grown VW2.hV n os).h2
  have a23 := fun n os => (VW2.v.grown VW2.hV n os).h3
  have a24 := fun n os => (VW2.v.grown VW2.hV n os).h4
  have a30 := fun n os => (VW3.v.grown VW3.hV n os).h0
  have a31 := fun n os => (VW3.v.grown VW3.hV n os).h1
  have a32 := fun n os => (VW3.v.grown VW3.hV n os).h2
  have a33 := fun n os => (VW3.v.grown VW3.hV n os).h3
  have a34 := fun n os => (VW3.v.grown VW3.hV n os).h4
  have a40 := fun n os => (VW4.v.grown VW4.hV n os).h0
  have a41 := fun n os => (VW4.v.grown VW4.hV n os).h1
  have a42 := fun n os => (VW4.v.grown VW4.hV n os).h2
  have a43 := fun n os => (VW4.v.grown VW4.hV n os).h3
  have a44 := fun n os => (VW4.v.grown VW4.hV n os).h4
  clear VW1 VW2 VW3 VW4 R1 R2 R3 R4 p1 p2 p3 p4 HG1 HG2 HG3 HG4 HL1 HL2 HL3 HL4 HO HA RH hcg hc0 hb0 bl4
  have D1 := C1.out 0 #[]
  rw [Sort.grow_empty, World.drewN_zero] at D1
  refine D1.mono ?_
  clear D1 C1
  rintro e w5 ⟨rfl, ⟨n5, os5⟩, rfl⟩
  cases u
  · have hne : (!false) = true := rfl
    by_cases hxc : x = c
    · obtain ⟨rfl, rfl⟩ := EU.out (Or.inr hxc)
      have hb : (x == c) = true := beq_iff_eq.2 hxc
      have hb' : (x != c) = false := by rw [bne, hb]; rfl
      simp only [hb, Bool.true_or, Bool.or_true] at C4
      clear EU EH hxc
      cases h
      all_goals
        go_wp2_with (first | (go_at_call_of 9 (Value.slice (some ⟨g4, 0, none⟩) G4.length 0); refine (C4.out _ _).mono ?_; rintro e w6 ⟨rfl, ⟨n6, os6⟩, rfl⟩) | (go_at_call_of 9 (Value.slice (some ⟨g2, 0, none⟩) G2.length cut); refine (C2.out _ _).mono ?_; rintro e w6 ⟨rfl, ⟨n6, os6⟩, rfl⟩) | (go_at_call_of 9 (Value.slice (some ⟨g3, 0, none⟩) G3.length (n - cut)); refine (C3.out _ _).mono ?_; rintro e w6 ⟨rfl, ⟨n6, os6⟩, rfl⟩) | (go_at_call 10; refine (CH.out _ _).mono ?_; rintro e w6 ⟨rfl, ⟨n6, os6⟩, rfl⟩))
        go_ret
        exact ⟨rfl, Bl.out _ _⟩
    · have hb : (x == c) = false := beq_eq_false_iff_ne.2 hxc
      have hb' : (x != c) = true := by rw [bne, hb]; rfl
      have hE : h = true → (r2 && r3) = false := fun h1 => EH.out rfl h1 hxc
      have hcs : (h = false ∧ r2 = false) ∨ (h = false ∧ r2 = true ∧ r3 = false) ∨ (h = false ∧ r2 = true ∧ r3 = true) ∨ (h = true ∧ r2 = false) ∨ (h = true ∧ r2 = true ∧ r3 = false) := by
        revert hE
        cases h <;> cases r2 <;> cases r3 <;> simp
      clear EU EH hE hxc
      by_cases hxn : x < next
      · have hd : decide (x < next) = true := decide_eq_true hxn
        simp only [hb, hd, Bool.false_or] at C4
        clear hd
        rcases hcs with ⟨rfl, rfl⟩ | ⟨rfl, rfl, rfl⟩ | ⟨rfl, rfl, rfl⟩ | ⟨rfl, rfl⟩ | ⟨rfl, rfl, rfl⟩
        all_goals
          go_wp2_with (first | (go_at_call_of 9 (Value.slice (some ⟨g4, 0, none⟩) G4.length 0); refine (C4.out _ _).mono ?_; rintro e w6 ⟨rfl, ⟨n6, os6⟩, rfl⟩) | (go_at_call_of 9 (Value.slice (some ⟨g2, 0, none⟩) G2.length cut); refine (C2.out _ _).mono ?_; rintro e w6 ⟨rfl, ⟨n6, os6⟩, rfl⟩) | (go_at_call_of 9 (Value.slice (some ⟨g3, 0, none⟩) G3.length (n - cut)); refine (C3.out _ _).mono ?_; rintro e w6 ⟨rfl, ⟨n6, os6⟩, rfl⟩) | (go_at_call 10; refine (CH.out _ _).mono ?_; rintro e w6 ⟨rfl, ⟨n6, os6⟩, rfl⟩))
          go_ret
          exact ⟨rfl, Bl.out _ _⟩
      · have hd : decide (x < next) = false := decide_eq_false hxn
        simp only [hb, hd, Bool.false_or] at C4
        clear hd
        rcases hcs with ⟨rfl, rfl⟩ | ⟨rfl, rfl, rfl⟩ | ⟨rfl, rfl, rfl⟩ | ⟨rfl, rfl⟩ | ⟨rfl, rfl, rfl⟩
        all_goals
          go_wp2_with (first | (go_at_call_of 9 (Value.slice (some ⟨g4, 0, none⟩) G4.length 0); refine (C4.out _ _).mono ?_; rintro e w6 ⟨rfl, ⟨n6, os6⟩, rfl⟩) | (go_at_call_of 9 (Value.slice (some ⟨g2, 0, none⟩) G2.length cut); refine (C2.out _ _).mono ?_; rintro e w6 ⟨rfl, ⟨n6, os6⟩, rfl⟩) | (go_at_call_of 9 (Value.slice (some ⟨g3, 0, none⟩) G3.length (n - cut)); refine (C3.out _ _).mono ?_; rintro e w6 ⟨rfl, ⟨n6, os6⟩, rfl⟩) | (go_at_call 10; refine (CH.out _ _).mono ?_; rintro e w6 ⟨rfl, ⟨n6, os6⟩, rfl⟩))
          go_ret
          exact ⟨rfl, Bl.out _ _⟩
  · obtain ⟨rfl, rfl⟩ := EU.out (Or.inl rfl)
    simp only [Bool.true_or] at C4
    clear EU EH
    cases h
    all_goals
      go_wp2_with (first | (go_at_call_of 9 (Value.slice (some ⟨g4, 0, none⟩) G4.length 0); refine (C4.out _ _).mono ?_; rintro e w6 ⟨rfl, ⟨n6, os6⟩, rfl⟩) | (go_at_call_of 9 (Value.slice (some ⟨g2, 0, none⟩) G2.length cut); refine (C2.out _ _).mono ?_; rintro e w6 ⟨rfl, ⟨n6, os6⟩, rfl⟩) | (go_at_call_of 9 (Value.slice (some ⟨g3, 0, none⟩) G3.length (n - cut)); refine (C3.out _ _).mono ?_; rintro e w6 ⟨rfl, ⟨n6, os6⟩, rfl⟩) | (go_at_call 10; refine (CH.out _ _).mono ?_; rintro e w6 ⟨rfl, ⟨n6, os6⟩, rfl⟩))
      go_ret
      exact ⟨rfl, Bl.out _ _⟩
end Go.Proofs.Qxb6630730a
