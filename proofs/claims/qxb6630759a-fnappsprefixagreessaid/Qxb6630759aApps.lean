import Derived.Test.Qxb6630759aBuild
import Derived.Test.Qxb6630759aMath
import Derived.Maps.OwnSet
import Derived.Maps.OwnOps
import Derived.Maps.Views
namespace Go.Proofs.Qxb6630759a
open Go.RowKit Go.Maps Go.WideMaps Go.WideElems
set_option linter.unusedVariables false

theorem law9 : Keyed Try.prog 9 := string_keyed Try.underlying9
theorem zero3 (w : World) : (zeroValue 3).run Try.prog w = .ok (.int .i64 0) w := by kernel_rfl
theorem info3 : (Try.prog.info? 3).map (fun i => (i.zero, i.size, i.bytes)) = some (some (.int .i64 0), 1, 8) := by kernel_rfl

/-- The names. -/
def nmOf (p : Nat → ByteArray) : Nat → List UInt8 := fun j => (p j).data.toList

/-- What the index holds behind k functions. -/
structure MInv (nm : Nat → List UInt8) (D : DataW Unit) (k : Nat) : Prop where
  tidy : Tidy D
  has : ∀ x : List UInt8, Maps.has D (.string x) = true ↔ ∃ j, j < k ∧ nm j = x
  at_ : ∀ j, j < k → D.atKey (.string (nm j)) (.lit (.int .i64 0)) = .lit (.int .i64 (Plain.app nm j))
  size : Maps.size D = Plain.rank nm k

theorem MInv.start (nm : Nat → List UInt8) : MInv nm (.map []) 0 :=
  ⟨tidy_empty, fun x => ⟨fun h => (by cases h), fun ⟨j, hj, _⟩ => absurd hj (Nat.not_lt_zero _)⟩, fun j hj => absurd hj (Nat.not_lt_zero _), rfl⟩

theorem isKey_string (x : List UInt8) : WideAt.IsKeyLit (.string x) := trivial

/-- The name is there. -/
theorem MInv.seen {nm : Nat → List UInt8} {D : DataW Unit} {k : Nat} (h : MInv nm D k) (hh : Maps.has D (.string (nm k)) = true) :
    MInv nm D (k + 1) ∧ D.atKey (.string (nm k)) (.lit (.int .i64 0)) = .lit (.int .i64 (Plain.app nm k)) := by
  obtain ⟨j, hj, e⟩ := (h.has _).1 hh
  have ha : D.atKey (.string (nm k)) (.lit (.int .i64 0)) = .lit (.int .i64 (Plain.app nm k)) := by
    rw [← e, h.at_ j hj, Plain.app_congr nm j k e]
  refine ⟨⟨h.tidy, fun x => ?_, fun i hi => ?_, ?_⟩, ha⟩
  · rw [h.has x]
    constructor
    · rintro ⟨i, hi, ei⟩; exact ⟨i, by omega, ei⟩
    · rintro ⟨i, hi, ei⟩
      by_cases hik : i = k
      · subst hik; exact ⟨j, hj, e.trans ei⟩
      · exact ⟨i, by omega, ei⟩
  · by_cases hik : i = k
    · subst hik; exact ha
    · exact h.at_ i (by omega)
  · rw [h.size]
    simp only [Plain.rank]
    rw [if_neg (Plain.not_first nm k j hj e)]

/-- The name is new. -/
theorem MInv.unseen {nm : Nat → List UInt8} {D : DataW Unit} {k : Nat} (h : MInv nm D k) (hh : Maps.has D (.string (nm k)) = false) :
    MInv nm (D.put (.string (nm k)) (.lit (.int .i64 (Maps.size D)))) (k + 1) ∧ Plain.app nm k = Maps.size D := by
  have hn : ∀ j, j < k → nm j ≠ nm k := by
    intro j hj e
    have := (h.has (nm k)).2 ⟨j, hj, e⟩
    rw [hh] at this
    cases this
  obtain ⟨e1, e2⟩ := Plain.app_first nm k hn
  have hne : ∀ x, x ≠ nm k → (Lit.string x) ≠ .string (nm k) := fun x hx e => hx (by injection e)
  refine ⟨⟨h.tidy.put (isKey_string _) _, fun x => ?_, fun i hi => ?_, ?_⟩, by rw [e2, h.size]⟩
  · by_cases hx : x = nm k
    · subst hx
      rw [has_put_same h.tidy.isMap (isKey_string _)]
      exact ⟨fun _ => ⟨k, by omega, rfl⟩, fun _ => rfl⟩
    · rw [has_put_other (hne x hx), h.has x]
      constructor
      · rintro ⟨i, hi, ei⟩; exact ⟨i, by omega, ei⟩
      · rintro ⟨i, hi, ei⟩
        by_cases hik : i = k
        · subst hik; exact absurd ei.symm hx
        · exact ⟨i, by omega, ei⟩
  · by_cases hik : i = k
    · subst hik
      rw [atKey_put_same h.tidy.isMap (isKey_string _), e2, h.size]
    · rw [atKey_put_other (hne _ (hn i (by omega)))]
      exact h.at_ i (by omega)
  · rw [size_put h.tidy, if_neg (by rw [hh]; simp), h.size]
    simp only [Plain.rank]
    rw [if_pos e1]

/-- The numbers made so far. -/
structure Nums (W : World) (g n k : Nat) (f : Nat → Nat) : Prop where
  own : ∃ xs, W.ownsRow g 3 1 (.slice (some ⟨g, 0, none⟩) n n) n xs ∧ ∀ j, j < k → xs[j]? = some (.int .i64 (f j))

theorem Nums.cells {W : World} {g n k : Nat} {f : Nat → Nat} (h : Nums W g n k f) (j : Nat) (hj : j < n) : (∃ v, W.cell? ⟨g, j, none⟩ = some v) ∧ W.frozen? ⟨g, j, none⟩ = false := by
  obtain ⟨xs, ho, _⟩ := h.own
  refine ⟨⟨xs[j]'(by rw [ho.1]; omega), ?_⟩, ho.frozenAt j⟩
  rw [ho.cellAt j (by omega)]
  exact List.getElem?_eq_getElem _
theorem Nums.read {W : World} {g n k : Nat} {f : Nat → Nat} (h : Nums W g n k f) (j : Nat) (hj : j < k) (hjn : j < n) : W.cell? ⟨g, j, none⟩ = some (.int .i64 (f j)) := by
  obtain ⟨xs, ho, hx⟩ := h.own
  rw [ho.cellAt j (by omega)]
  exact hx j hj
theorem Nums.store {W : World} {g n k : Nat} {f : Nat → Nat} (h : Nums W g n k f) (hk : k < n) : Nums (W.setCell ⟨g, k, none⟩ (.int .i64 (f k))) g n (k + 1) f := by
  obtain ⟨xs, ho, hx⟩ := h.own
  refine ⟨⟨_, (ho.stored k _).1, fun j hj => ?_⟩⟩
  by_cases e : j = k
  · subst e; rw [List.getElem?_set_self (by rw [ho.1]; omega)]
  · rw [List.getElem?_set_ne (by omega)]; exact hx j (by omega)
theorem Nums.kept {W W' : World} {g n k : Nat} {f : Nat → Nat} {row : Option Nat} (h : Nums W g n k f) (hg : W.grownBy W' row) (hne : (some g : Option Nat) ≠ row) : Nums W' g n k f := by
  obtain ⟨xs, ho, hx⟩ := h.own
  exact ⟨⟨xs, ho.kept hg (.inr hne), hx⟩⟩

theorem Nums.grown {W : World} {g n k : Nat} {f : Nat → Nat} (h : Nums W g n k f) (j : Nat) (v : Value) : W.grownBy (W.setCell ⟨g, j, none⟩ v) (some g) := by
  obtain ⟨xs, ho, _⟩ := h.own
  exact (ho.stored j v).2

set_option maxHeartbeats 2000000 in
theorem apps8 (T g n cv : Nat) (av : Option Addr) (p q : Nat → ByteArray) (w : World) (hc0 : w.cell? ⟨T, 0, none⟩ = some (.slice av n cv)) (ha : 0 < n → av = some ⟨g, 0, none⟩) (hg : 0 < n → g < w.heap.size) (hp : Pairs w g 0 n p q)
    (hn : n ≤ 4096) (hs : ∀ j, j < n → (p j).size ≤ maxLen) :
    Calls Try.prog 8 #[.pointer (some ⟨T, 0, none⟩)] w fun e w' => e = .returned (.tuple #[.slice (some ⟨w.heap.size + 1, 0, none⟩) n n, .int .i64 (Plain.rank (nmOf p) n)]) ∧
      Nums w' (w.heap.size + 1) n n (Plain.app (nmOf p)) ∧ Below w.heap.size w w' := by
  obtain ⟨i0, hi, hz0, hz1, hz2⟩ := info_parts info3
  have hT : T < w.heap.size := World.block_lt_of_cell? _ _ hc0
  have HA : Aside (0 < n → av = some ⟨g, 0, none⟩) := ha
  have HG : Aside (0 < n → g < w.heap.size) := hg
  have HP : Aside (Pairs w g 0 n p q) := hp
  have HS : Aside (∀ j, j < n → (p j).size ≤ maxLen) := hs
  clear ha hg hp hs
  have hmm := @run_makeMap Try.prog
  go_enter Try.func8, Try.ntmps8
  go_wp2_with (at_make; refine wpList_make_full _ rfl _ _ 25 rfl (w.heap.size + 1) 3 i0 _ 1 Try.underlying25 hi hz0 hz1 _ _ _ _ n rfl rfl (by omega) (by omega) (by rw [hz2]; omega) (by unfold maxLen; omega) (by simp) ?_; intro w1 hown hgrow; obtain ⟨k0, f0⟩ := grown_none hgrow T 0 (by simp; omega); simp [World.cell?_alloc_past, hT, hc0] at k0)
  have e1 : (w.alloc (.map #[] 0)).heap.size = w.heap.size + 1 := by simp
  have N0 : Nums w1 (w.heap.size + 1) n 0 (Plain.app (nmOf p)) := by
    rw [e1] at hown
    exact ⟨⟨_, hown, fun j hj => absurd hj (Nat.not_lt_zero _)⟩⟩
  have M0 : w1.ownsMap Try.prog 9 (plainElem (H := Unit) Try.prog 3) w.heap.size 0 (.map []) := (World.ownsMap_made w _ _ _).kept hgrow (by simp)
  have B0 : Below w.heap.size w w1 := ((Below.refl _ _).alloc (Nat.le_refl _) _).grown hgrow (by simp) (fun j hj => by cases hj)
  clear hown hgrow k0 f0 e1 hmm
  go_loopw [21] (fun i wr => ∃ k : Nat, ∃ D : DataW Unit, k ≤ n ∧ i = .int .i64 k ∧ wr.ownsMap Try.prog 9 (plainElem (H := Unit) Try.prog 3) w.heap.size k D ∧ MInv (nmOf p) D k ∧ Nums wr (w.heap.size + 1) n k (Plain.app (nmOf p)) ∧ Below w.heap.size w wr) (fun i _ => n - (intOf i).toNat)
  case atStart => exact ⟨0, .map [], Nat.zero_le _, rfl, M0, MInv.start _, N0, B0⟩
  case round =>
    obtain ⟨k, D, hk, rfl, hM, hI, hN, hB⟩ := hrel
    by_cases hlt : k < n
    · have ha := HA.out (by omega)
      subst ha
      have hg := HG.out (by omega)
      obtain ⟨ck, dk⟩ := HP.out k hlt
      rw [Nat.zero_add] at ck dk
      have ck' := (hB.cell (p := ⟨g, k * 2, none⟩) hg).trans ck
      have dk' := (hB.cell (p := ⟨g, k * 2 + 1, none⟩) hg).trans dk
      have hsk := HS.out k hlt
      obtain ⟨⟨v0, r0⟩, s0⟩ := hN.cells k hlt
      have hki : (k : Int) < (n : Int) := by omega
      have hgw : g < wr.heap.size := Nat.lt_of_lt_of_le hg hB.size
      have hrw : w.heap.size + 1 < wr.heap.size := World.block_lt_of_cell? _ _ r0
      clear ck dk
      cases hh : Maps.has D (.string (p k).data.toList)
      · -- a new name
        obtain ⟨hI', e2⟩ := hI.unseen hh
        have hsz : Aside (Plain.app (nmOf p) k = Maps.size D) := e2
        have hszk : Maps.size D ≤ k := by rw [hI.size]; exact Plain.rank_le _ _
        have HI : Aside (MInv (nmOf p) (D.put (.string (p k).data.toList) (.lit (.int .i64 (Maps.size D)))) (k + 1)) := hI'
        clear hI hI' e2
        go_wp2_with (first
          | (at_lookup; refine wpList_lookup_own_ok_int _ rfl _ _ 43 rfl 9 3 .i64 law9 Try.underlying43 Try.underlying3 (zero3 _) w.heap.size k D rfl (hM.alloc _) _ _ rfl (keyOf_string_mk Try.underlying9 hsk) ?_; intro c hat hwc)
          | (at_len; refine wpList_len_own _ rfl _ 43 rfl 9 3 Try.underlying43 _ w.heap.size k D rfl (hM.alloc _) ?_)
          | (at_mapUpdate; refine wpList_mapUpdate_own _ rfl _ _ _ 43 rfl 9 3 law9 Try.underlying43 _ w.heap.size k D rfl (hM.alloc _) (by unfold maxLen; omega) _ _ _ rfl rfl (keyOf_string_mk Try.underlying9 hsk) _ [] (plainElem_int Try.underlying3 (WalkArith.wf_i64 (by omega))) ?_; intro w2 hown2 hgrow2; have N2 := (hN.kept (World.grownBy_alloc wr _ none) (by simp)).kept hgrow2 (by simp); obtain ⟨⟨v2, r2⟩, s2⟩ := N2.cells k hlt))
        have hne : (some w.heap.size : Option Nat) ≠ some (w.heap.size + 1) := fun e => by simp at e
        have N3 := N2.store hlt
        have B3 : Below w.heap.size w (w2.setCell ⟨w.heap.size + 1, k, none⟩ (.int .i64 (Plain.app (nmOf p) k))) := ((hB.alloc (by omega) _).grown hgrow2 (by simp; omega) (fun j hj => by cases hj; exact Nat.le_refl _)).setCell (by simp) _
        have M3 : (w2.setCell ⟨w.heap.size + 1, k, none⟩ (.int .i64 (Plain.app (nmOf p) k))).ownsMap Try.prog 9 (plainElem (H := Unit) Try.prog 3) w.heap.size (k + 1) _ := hown2.kept (Nums.grown N2 k _) hne
        rw [hsz.out] at N3 B3 M3
        go_roundw
        case rel => exact ⟨k + 1, _, by omega, by go_num, M3, HI.out, N3, B3⟩
        case measure => simp [intOf]; omega
      · -- a name that was met before
        obtain ⟨hI', hat'⟩ := hI.seen hh
        have HI : Aside (MInv (nmOf p) D (k + 1)) := hI'
        have HT : Aside (D.atKey (.string (p k).data.toList) (.lit (.int .i64 0)) = .lit (.int .i64 (Plain.app (nmOf p) k))) := hat'
        clear hI hI' hat'
        go_wp2_with (at_lookup; refine wpList_lookup_own_ok_int _ rfl _ _ 43 rfl 9 3 .i64 law9 Try.underlying43 Try.underlying3 (zero3 _) w.heap.size k D rfl (hM.alloc _) _ _ rfl (keyOf_string_mk Try.underlying9 hsk) ?_; intro c hat hwc; have hatc : Aside (D.atKey (.string (p k).data.toList) (.lit (.int .i64 0)) = .lit (.int .i64 c)) := hat; clear hat hwc)
        have hcc : c = (Plain.app (nmOf p) k : Int) := by
          have h := hatc.out.symm.trans HT.out
          injection h with h
          injection h
        subst hcc
        have hne : (some w.heap.size : Option Nat) ≠ some (w.heap.size + 1) := fun e => by simp at e
        have N3 := (hN.store hlt).kept (World.grownBy_alloc _ (.cells #[.string (p k), .string (q k)] 38) none) (by simp)
        have B3 := (hB.setCell (p := ⟨w.heap.size + 1, k, none⟩) (by simp) (.int .i64 (Plain.app (nmOf p) k))).alloc (by simp; omega) (.cells #[.string (p k), .string (q k)] 38)
        have M3 := ((hM.kept (Nums.grown hN k (.int .i64 (Plain.app (nmOf p) k))) hne).alloc (.cells #[.string (p k), .string (q k)] 38)).mono (Nat.le_succ k)
        go_roundw
        case rel => exact ⟨k + 1, D, by omega, by go_num, M3, HI.out, N3, B3⟩
        case measure => simp [intOf]; omega
    · have e : k = n := by omega
      subst e
      have hsz : Aside (Maps.size D = Plain.rank (nmOf p) k) := hI.size
      clear hI
      go_wp2_with (at_len; refine wpList_len_own _ rfl _ 43 rfl 9 3 Try.underlying43 _ w.heap.size k D rfl hM ?_)
      go_ret2
      exact ⟨by rw [← hsz.out]; rfl, hN, hB⟩
end Go.Proofs.Qxb6630759a
