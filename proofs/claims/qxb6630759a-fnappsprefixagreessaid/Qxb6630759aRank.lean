import Derived.Test.Qxb6630759aApps
namespace Go.Proofs.Qxb6630759a
open Go.RowKit Go.Maps Go.WideMaps Go.WideElems
set_option linter.unusedVariables false

theorem info4 : (Try.prog.info? 4).map (fun i => (i.zero, i.size, i.bytes)) = some (some (.bool false), 1, 1) := by kernel_rfl

theorem grownBy_of_below {W W' : World} (h : Below W.heap.size W W') : W.grownBy W' none := ⟨h.os, h.tape, h.output, h.size, fun k hk _ => h.block k hk⟩
theorem grownBy_draws (W : World) (d : Nat) (row : Option Nat) : W.grownBy (W.drewN d) row := ⟨rfl, rfl, rfl, Nat.le_refl _, fun _ _ _ => rfl⟩

/-- A row of bools made by the call. -/
structure Bools (W : World) (g n k : Nat) (f : Nat → Bool) : Prop where
  own : ∃ xs, W.ownsRow g 4 1 (.slice (some ⟨g, 0, none⟩) n n) n xs ∧ ∀ j, j < k → xs[j]? = some (.bool (f j))

theorem Bools.cells {W : World} {g n k : Nat} {f : Nat → Bool} (h : Bools W g n k f) (j : Nat) (hj : j < n) : (∃ v, W.cell? ⟨g, j, none⟩ = some v) ∧ W.frozen? ⟨g, j, none⟩ = false := by
  obtain ⟨xs, ho, _⟩ := h.own
  refine ⟨⟨xs[j]'(by rw [ho.1]; omega), ?_⟩, ho.frozenAt j⟩
  rw [ho.cellAt j (by omega)]
  exact List.getElem?_eq_getElem _
theorem Bools.read {W : World} {g n k : Nat} {f : Nat → Bool} (h : Bools W g n k f) (j : Nat) (hj : j < k) (hjn : j < n) : W.cell? ⟨g, j, none⟩ = some (.bool (f j)) := by
  obtain ⟨xs, ho, hx⟩ := h.own
  rw [ho.cellAt j (by omega)]
  exact hx j hj
theorem Bools.store {W : World} {g n k : Nat} {f : Nat → Bool} (h : Bools W g n k f) (hk : k < n) : Bools (W.setCell ⟨g, k, none⟩ (.bool (f k))) g n (k + 1) f := by
  obtain ⟨xs, ho, hx⟩ := h.own
  refine ⟨⟨_, (ho.stored k _).1, fun j hj => ?_⟩⟩
  by_cases e : j = k
  · subst e; rw [List.getElem?_set_self (by rw [ho.1]; omega)]
  · rw [List.getElem?_set_ne (by omega)]; exact hx j (by omega)
theorem Bools.kept {W W' : World} {g n k : Nat} {f : Nat → Bool} {row : Option Nat} (h : Bools W g n k f) (hg : W.grownBy W' row) (hne : (some g : Option Nat) ≠ row) : Bools W' g n k f := by
  obtain ⟨xs, ho, hx⟩ := h.own
  exact ⟨⟨xs, ho.kept hg (.inr hne), hx⟩⟩
theorem Bools.grown {W : World} {g n k : Nat} {f : Nat → Bool} (h : Bools W g n k f) (j : Nat) (v : Value) : W.grownBy (W.setCell ⟨g, j, none⟩ v) (some g) := by
  obtain ⟨xs, ho, _⟩ := h.own
  exact (ho.stored j v).2
theorem Pairs.below {W W' : World} {b off n : Nat} {p q : Nat → ByteArray} (h : Pairs W b off n p q) (hb : Below W.heap.size W W') (hg : 0 < n → b < W.heap.size) : Pairs W' b off n p q :=
  fun j hj => ⟨(hb.cell (p := ⟨b, off + j * 2, none⟩) (hg (by omega))).trans (h j hj).1, (hb.cell (p := ⟨b, off + j * 2 + 1, none⟩) (hg (by omega))).trans (h j hj).2⟩
theorem Trips.below {W W' : World} {b off m : Nat} {zi : Nat → Int} {xf yf : Nat → Nat} (h : Trips W b off m zi xf yf) (hb : Below W.heap.size W W') (hg : 0 < m → b < W.heap.size) : Trips W' b off m zi xf yf :=
  fun j hj => ⟨(hb.cell (p := ⟨b, off + j * 3, none⟩) (hg (by omega))).trans (h j hj).1, (hb.cell (p := ⟨b, off + j * 3 + 1, none⟩) (hg (by omega))).trans (h j hj).2.1, (hb.cell (p := ⟨b, off + j * 3 + 2, none⟩) (hg (by omega))).trans (h j hj).2.2⟩

/-- A round of the first loop. -/
theorem outerStep {w wr : World} {G1 G2 n k : Nat} {nm : Nat → List UInt8} (hN : Nums wr G1 n k (Plain.fst nm)) (hL : Bools wr G2 n k (fun j => decide (Plain.fst nm j = j))) (hB : Below w.heap.size w wr) (hlt : k < n)
    (h1 : w.heap.size ≤ G1) (h2 : G1 < G2) (g d : Nat) (bv : Bool) (hg : g = Plain.fst nm k) (hbv : bv = decide (Plain.fst nm k = k)) :
    Nums (((wr.drewN d).setCell ⟨G1, k, none⟩ (.int .i64 g)).setCell ⟨G2, k, none⟩ (.bool bv)) G1 n (k + 1) (Plain.fst nm) ∧
    Bools (((wr.drewN d).setCell ⟨G1, k, none⟩ (.int .i64 g)).setCell ⟨G2, k, none⟩ (.bool bv)) G2 n (k + 1) (fun j => decide (Plain.fst nm j = j)) ∧
    Below w.heap.size w (((wr.drewN d).setCell ⟨G1, k, none⟩ (.int .i64 g)).setCell ⟨G2, k, none⟩ (.bool bv)) := by
  subst hg; subst hbv
  have hne : (some G1 : Option Nat) ≠ some G2 := fun e => by simp at e; omega
  have hN1 := hN.kept (grownBy_draws wr d none) (by simp)
  have hL1 := hL.kept (grownBy_draws wr d none) (by simp)
  have hL2 := hL1.kept (hN1.grown k (.int .i64 (Plain.fst nm k))) hne.symm
  refine ⟨(hN1.store hlt).kept (hL2.grown k _) hne, hL2.store hlt, ?_⟩
  exact ((Go.below_drewN hB d).setCell (by simpa using h1) _).setCell (by show w.heap.size ≤ G2; omega) _

theorem name_eq (p : Nat → ByteArray) (i j : Nat) : ((p i).toList == (p j).toList) = decide (nmOf p i = nmOf p j) := by
  unfold nmOf
  rw [ByteArray.toList_eq, ByteArray.toList_eq, Bool.eq_iff_iff]
  simp

set_option maxHeartbeats 4000000 in
set_option maxRecDepth 100000 in
theorem rank3 (a0 a1 : Option Addr) (b off n c0 m c1 : Nat) (p q : Nat → ByteArray) (w : World) (h0 : a0 = none → n = 0) (ha : 0 < n → a0 = some ⟨b, off, none⟩) (hn : n ≤ 4096) (hm : m ≤ 4096) (hb : 0 < n → b < w.heap.size) (hc : Pairs w b off n p q)
    (b1 off1 : Nat) (zi : Nat → Int) (xf yf : Nat → Nat) (h1 : a1 = none → m = 0) (ha1 : 0 < m → a1 = some ⟨b1, off1, none⟩) (hb1 : 0 < m → b1 < w.heap.size) (hc1 : Trips w b1 off1 m zi xf yf) (hs : ∀ j, j < n → (p j).size ≤ maxLen) :
    Calls Try.prog 3 #[.slice a0 n c0, .slice a1 m c1] w fun e w' => e = .returned (.bool true) ∧ Below w.heap.size w w' := by
  obtain ⟨i3, hi3, hz03, hz13, hz23⟩ := info_parts info3
  obtain ⟨i4, hi4, hz04, hz14, hz24⟩ := info_parts info4
  have HA : Aside (0 < n → a0 = some ⟨b, off, none⟩) := ha
  have HB : Aside (0 < n → b < w.heap.size) := hb
  have HC : Aside (Pairs w b off n p q) := hc
  have H0 : Aside (a0 = none → n = 0) := h0
  have H1 : Aside (a1 = none → m = 0) := h1
  have HA1 : Aside (0 < m → a1 = some ⟨b1, off1, none⟩) := ha1
  have HB1 : Aside (0 < m → b1 < w.heap.size) := hb1
  have HC1 : Aside (Trips w b1 off1 m zi xf yf) := hc1
  have HS : Aside (∀ j, j < n → (p j).size ≤ maxLen) := hs
  clear h0 ha hb hc h1 ha1 hb1 hc1 hs
  go_enter Try.func3, Try.ntmps3
  go_wp2_with fail
  refine (bytes5 _ _ b off _ _ _ _ p q _ HA.out (by unfold maxLen; omega) (by unfold maxLen; omega) HC.out).mono ?_
  rintro e w' ⟨⟨r, rfl⟩, rfl⟩
  cases r
  · go_wp2
    go_ret
    exact ⟨rfl, Below.refl _ _⟩
  go_wp2_with fail
  refine (over6 _ _ b off _ _ _ _ p q _ HA.out hn hm HC.out).mono ?_
  rintro e w' ⟨⟨r, rfl⟩, d, rfl⟩
  cases r
  rotate_left
  · go_wp2
    go_ret
    exact ⟨rfl, Go.below_drewN (Below.refl _ _) d⟩
  have bl0 : Below w.heap.size w (w.drewN d) := Go.below_drewN (Below.refl _ _) d
  generalize w.drewN d = W0 at bl0 ⊢
  go_wp2_with (first
    | (at_make; refine wpList_make_full _ rfl (.tmp 26) (.tmp 26) 25 rfl W0.heap.size 3 i3 _ 1 Try.underlying25 hi3 hz03 hz13 _ _ _ _ n rfl rfl (by omega) (by omega) (by rw [hz23]; omega) (by unfold maxLen; omega) (Nat.le_refl _) ?_; intro W1 own1 grow1)
    | (at_make; refine wpList_make_full _ rfl (.tmp 28) (.tmp 28) 26 rfl W1.heap.size 4 i4 _ 1 Try.underlying26 hi4 hz04 hz14 _ _ _ _ n rfl rfl (by omega) (by omega) (by rw [hz24]; omega) (by unfold maxLen; omega) (Nat.le_refl _) ?_; intro W2 own2 grow2))
  have sz0 : w.heap.size ≤ W0.heap.size := bl0.size
  have sz1 : W0.heap.size < W1.heap.size := (own1.lt _ rfl).2
  have N0 : Nums W2 W0.heap.size n 0 (Plain.fst (nmOf p)) := Nums.kept ⟨⟨_, own1, fun j hj => absurd hj (Nat.not_lt_zero _)⟩⟩ grow2 (by simp)
  have L0 : Bools W2 W1.heap.size n 0 (fun j => decide (Plain.fst (nmOf p) j = j)) := ⟨⟨_, own2, fun j hj => absurd hj (Nat.not_lt_zero _)⟩⟩
  have bl2 : Below w.heap.size w W2 := (bl0.grown grow1 sz0 (fun j hj => by cases hj)).grown grow2 (by omega) (fun j hj => by cases hj)
  clear own1 own2 grow1 grow2 bl0
  generalize W0.heap.size = G1 at N0 sz0 sz1 ⊢
  generalize W1.heap.size = G2 at L0 sz1 ⊢
  go_loopw [8] (fun i wr => ∃ k : Nat, k ≤ n ∧ i = .int .i64 k ∧ Nums wr G1 n k (Plain.fst (nmOf p)) ∧ Bools wr G2 n k (fun j => decide (Plain.fst (nmOf p) j = j)) ∧ Below w.heap.size w wr) (fun i _ => n - (intOf i).toNat)
  case atStart => exact ⟨0, Nat.zero_le _, rfl, N0, L0, bl2⟩
  case round =>
    obtain ⟨k, hk, rfl, hN, hL, hB⟩ := hrel
    by_cases hlt : k < n
    · have ha := HA.out (by omega)
      subst ha
      have hb := HB.out (by omega)
      have ck : wr.cell? ⟨b, off + k * 2, none⟩ = some (.string (p k)) := (hB.cell (p := ⟨b, off + k * 2, none⟩) hb).trans (HC.out k hlt).1
      have hki : (k : Int) < (n : Int) := by omega
      obtain ⟨⟨v1, r1⟩, f1⟩ := hN.cells k hlt
      obtain ⟨⟨v2, r2⟩, f2⟩ := hL.cells k hlt
      have hG12 : ¬ G1 = G2 := by omega
      have hst : Aside (∀ g d bv, g = Plain.fst (nmOf p) k → bv = decide (Plain.fst (nmOf p) k = k) → Nums (((wr.drewN d).setCell ⟨G1, k, none⟩ (.int .i64 g)).setCell ⟨G2, k, none⟩ (.bool bv)) G1 n (k + 1) (Plain.fst (nmOf p)) ∧
          Bools (((wr.drewN d).setCell ⟨G1, k, none⟩ (.int .i64 g)).setCell ⟨G2, k, none⟩ (.bool bv)) G2 n (k + 1) (fun j => decide (Plain.fst (nmOf p) j = j)) ∧
          Below w.heap.size w (((wr.drewN d).setCell ⟨G1, k, none⟩ (.int .i64 g)).setCell ⟨G2, k, none⟩ (.bool bv))) := fun g d bv hg hbv => outerStep hN hL hB hlt sz0 sz1 g d bv hg hbv
      clear hN hL
      go_wp2
      go_loopw [9] (fun i wi => ∃ g d : Nat, g ≤ k ∧ i = .int .i64 g ∧ Aside (∀ h, h < g → nmOf p h ≠ nmOf p k) ∧ wi = wr.drewN d) (fun i _ => k - (intOf i).toNat)
      case atStart => exact ⟨0, 0, Nat.zero_le _, rfl, fun h hh => absurd hh (Nat.not_lt_zero _), rfl⟩
      case round =>
        obtain ⟨g, d, hg, rfl, hne, rfl⟩ := hrel
        by_cases hgk : g < k
        · have cg : wr.cell? ⟨b, off + g * 2, none⟩ = some (.string (p g)) := (hB.cell (p := ⟨b, off + g * 2, none⟩) hb).trans (HC.out g (by omega)).1
          have hgi : (g : Int) < (k : Int) := by omega
          have hgn : (g : Int) < (n : Int) := by omega
          have hgb : ((g : Int) == (k : Int)) = false := beq_eq_false_iff_ne.2 (by omega)
          by_cases he : nmOf p g = nmOf p k
          · have hb1 : ((p g).toList == (p k).toList) = true := by rw [name_eq, decide_eq_true he]
            have HE : Aside (nmOf p g = nmOf p k) := he
            clear he
            go_wp2
            go_quiet (fail)
            go_wp2
            have hf : g = Plain.fst (nmOf p) k := Plain.fst_unique _ _ _ HE.out hne.out
            obtain ⟨x1, x2, x3⟩ := hst.out g (d + nq) false hf (by rw [← hf, decide_eq_false (by omega)])
            go_roundw
            case rel => exact ⟨k + 1, by omega, by go_num, x1, x2, x3⟩
            case measure => simp [intOf]; omega
          · have hb1 : ((p g).toList == (p k).toList) = false := by rw [name_eq, decide_eq_false he]
            go_wp2
            go_quiet (fail)
            go_wp2
            go_roundw
            case rel =>
              refine ⟨g + 1, _, by omega, by go_num, fun h hh => ?_, rfl⟩
              by_cases hhg : h = g
              · subst hhg; exact he
              · exact hne.out h (by omega)
            case measure => simp [intOf]; omega
        · have e : g = k := by omega
          subst e
          have hd : decide ((g : Int) < (g : Int)) = false := by simp
          go_wp2
          go_quiet (fail)
          go_wp2
          have hf : g = Plain.fst (nmOf p) g := Plain.fst_unique _ _ _ rfl hne.out
          obtain ⟨x1, x2, x3⟩ := hst.out g (d + nq) true hf (by rw [← hf, decide_eq_true rfl])
          go_roundw
          case rel => exact ⟨g + 1, by omega, by go_num, x1, x2, x3⟩
          case measure => simp [intOf]; omega
    · have e : n = k := by omega
      subst e
      have hG2 : G2 < wr.heap.size := by
        obtain ⟨xs, ho, _⟩ := hL.own
        exact (ho.lt _ rfl).2
      go_wp2_with (at_make; refine wpList_make_full _ rfl (.tmp 63) (.tmp 63) 25 rfl wr.heap.size 3 i3 _ 1 Try.underlying25 hi3 hz03 hz13 _ _ _ _ n rfl rfl (by omega) (by omega) (by rw [hz23]; omega) (by unfold maxLen; omega) (Nat.le_refl _) ?_; intro W3 own3 grow3)
      have R0 : Nums W3 wr.heap.size n 0 (Plain.rank (nmOf p)) := ⟨⟨_, own3, fun j hj => absurd hj (Nat.not_lt_zero _)⟩⟩
      have N1 := hN.kept grow3 (by simp)
      have L1 := hL.kept grow3 (by simp)
      have bl3 := hB.grown grow3 hB.size (fun j hj => by cases hj)
      clear hN hL hB own3 grow3 N0 L0 bl2
      generalize wr.heap.size = G3 at R0 hG2 ⊢
      go_loopw [11, 12] (fun c i wi => ∃ k : Nat, k ≤ n ∧ i = .int .i64 k ∧ c = .int .i64 (Plain.rank (nmOf p) k) ∧ Nums wi G3 n k (Plain.rank (nmOf p)) ∧ Nums wi G1 n n (Plain.fst (nmOf p)) ∧ Bools wi G2 n n (fun j => decide (Plain.fst (nmOf p) j = j)) ∧ Below w.heap.size w wi) (fun _ i _ => n - (intOf i).toNat)
      case atStart => exact ⟨0, Nat.zero_le _, rfl, rfl, R0, N1, L1, bl3⟩
      case round =>
        obtain ⟨k, hk, rfl, rfl, hR, hN, hL, hB⟩ := hrel
        by_cases hlt : k < n
        · have hki : (k : Int) < (n : Int) := by omega
          obtain ⟨⟨v1, r1⟩, f1⟩ := hR.cells k hlt
          have r2 := hL.read k hlt hlt
          have hrk := Plain.rank_le (nmOf p) k
          have hne3 : (some G1 : Option Nat) ≠ some G3 := fun e => by simp at e; omega
          have hne4 : (some G2 : Option Nat) ≠ some G3 := fun e => by simp at e; omega
          have hG23 : ¬ G3 = G2 := by omega
          by_cases hf : Plain.fst (nmOf p) k = k
          · rw [decide_eq_true hf] at r2
            have hS : Aside (Plain.rank (nmOf p) (k + 1) = Plain.rank (nmOf p) k + 1) := by show _ = _; simp only [Plain.rank]; rw [if_pos hf]
            have x1 : Aside (Nums _ G3 n (k + 1) (Plain.rank (nmOf p))) := hR.store hlt
            have x2 : Aside (Nums _ G1 n n (Plain.fst (nmOf p))) := hN.kept (hR.grown k (.int .i64 (Plain.rank (nmOf p) k))) hne3
            have x3 : Aside (Bools _ G2 n n (fun j => decide (Plain.fst (nmOf p) j = j))) := hL.kept (hR.grown k (.int .i64 (Plain.rank (nmOf p) k))) hne4
            have x4 : Aside (Below w.heap.size w _) := hB.setCell (p := ⟨G3, k, none⟩) (by show w.heap.size ≤ G3; omega) (.int .i64 (Plain.rank (nmOf p) k))
            clear hR hN hL hB hf
            generalize Plain.rank (nmOf p) k = rk at hS x1 x2 x3 x4 hrk ⊢
            go_wp2
            go_roundw
            case rel => exact ⟨k + 1, by omega, by go_num, by rw [hS.out]; go_num, x1, x2, x3, x4⟩
            case measure => simp [intOf]; omega
          · rw [decide_eq_false hf] at r2
            have hS : Aside (Plain.rank (nmOf p) (k + 1) = Plain.rank (nmOf p) k) := by show _ = _; simp only [Plain.rank]; rw [if_neg hf]
            have x1 : Aside (Nums _ G3 n (k + 1) (Plain.rank (nmOf p))) := hR.store hlt
            have x2 : Aside (Nums _ G1 n n (Plain.fst (nmOf p))) := hN.kept (hR.grown k (.int .i64 (Plain.rank (nmOf p) k))) hne3
            have x3 : Aside (Bools _ G2 n n (fun j => decide (Plain.fst (nmOf p) j = j))) := hL.kept (hR.grown k (.int .i64 (Plain.rank (nmOf p) k))) hne4
            have x4 : Aside (Below w.heap.size w _) := hB.setCell (p := ⟨G3, k, none⟩) (by show w.heap.size ≤ G3; omega) (.int .i64 (Plain.rank (nmOf p) k))
            clear hR hN hL hB hf
            generalize Plain.rank (nmOf p) k = rk at hS x1 x2 x3 x4 hrk ⊢
            go_wp2
            go_roundw
            case rel => exact ⟨k + 1, by omega, by go_num, by rw [hS.out], x1, x2, x3, x4⟩
            case measure => simp [intOf]; omega
        · have e : n = k := by omega
          subst e
          have hrn := Plain.rank_le (nmOf p) n
          have hbr : 0 < n → b < wr.heap.size := fun h => Nat.lt_of_lt_of_le (HB.out h) hB.size
          have hb1r : 0 < m → b1 < wr.heap.size := fun h => Nat.lt_of_lt_of_le (HB1.out h) hB.size
          have hpr := HC.out.below hB HB.out
          have htr := HC1.out.below hB HB1.out
          have HBR : Aside (0 < n → b < wr.heap.size) := hbr
          have HB1R : Aside (0 < m → b1 < wr.heap.size) := hb1r
          clear hbr hb1r
          go_wp2_with fail
          refine (build7 _ _ b off _ _ _ _ p q _ H0.out HA.out hn hm HBR.out hpr b1 off1 zi xf yf H1.out HA1.out HB1R.out htr).mono ?_
          rintro e W4 ⟨rfl, av, g, hF⟩
          have c0 := hF.c0
          have fa : Aside (0 < n → av = some ⟨g, 0, none⟩) := hF.ha
          have fg : Aside (0 < n → g < W4.heap.size) := fun h => (hF.hg h).2
          have fp := hF.pairs
          have fb := hF.bel
          clear hF HBR HB1R hpr htr
          go_wp2_with fail
          refine (apps8 _ g n n av p q _ c0 fa.out fg.out fp hn HS.out).mono ?_
          rintro e W5 ⟨rfl, hA, hB5⟩
          have hN5 := (hN.kept (grownBy_of_below fb) (by simp)).kept (grownBy_of_below hB5) (by simp)
          have hR5 := (hR.kept (grownBy_of_below fb) (by simp)).kept (grownBy_of_below hB5) (by simp)
          have bl5 : Below w.heap.size w W5 := (hB.trans (fb.mono hB.size)).trans (hB5.mono (Nat.le_trans hB.size fb.size))
          clear hN hR hL hB c0 fa fg fp fb hB5
          generalize W4.heap.size + 1 = G4 at hA ⊢
          go_wp2
          go_loopw [16] (fun i wi => ∃ k d : Nat, k ≤ n ∧ i = .int .i64 k ∧ wi = W5.drewN d) (fun i _ => n - (intOf i).toNat)
          case atStart => exact ⟨0, 0, Nat.zero_le _, rfl, rfl⟩
          case round =>
            obtain ⟨k, d, hk, rfl, rfl⟩ := hrel
            by_cases hlt : k < n
            · have q1 := hA.read k hlt hlt
              have q2 := hN5.read k hlt hlt
              have hfk : Plain.fst (nmOf p) k < n := Nat.lt_of_le_of_lt (Plain.fst_le _ _) hlt
              have q3 := hR5.read _ hfk hfk
              rw [show Plain.app (nmOf p) k = Plain.rank (nmOf p) (Plain.fst (nmOf p) k) from rfl] at q1
              generalize Plain.rank (nmOf p) (Plain.fst (nmOf p) k) = rv at q1 q3
              generalize Plain.fst (nmOf p) k = fk at q2 q3 hfk
              have hki : (k : Int) < (n : Int) := by omega
              have hfi : (fk : Int) < (n : Int) := by omega
              clear hA hN5 hR5
              go_wp2
              go_quiet (fail)
              go_wp2
              go_roundw
              case rel => exact ⟨k + 1, _, by omega, by go_num, rfl⟩
              case measure => simp [intOf]; omega
            · go_wp2
              go_ret
              exact ⟨rfl, Go.below_drewN bl5 _⟩
end Go.Proofs.Qxb6630759a
