import Derived.Test.Qxb6630759aRank
namespace Go.Proofs.Qxb6630759a
open Go.RowKit Go.Maps Go.WideMaps Go.WideElems
set_option linter.unusedVariables false

theorem rank_next (nm : Nat → List UInt8) (k : Nat) : Plain.rank nm (k + 1) = if Plain.rank nm k < Plain.app nm k + 1 then Plain.app nm k + 1 else Plain.rank nm k := by
  rw [← Plain.want_rank, ← Plain.want_rank]; rfl

set_option maxHeartbeats 4000000 in
set_option maxRecDepth 100000 in
theorem prefix4 (a0 a1 : Option Addr) (b off n c0 m c1 : Nat) (kk : Nat) (hkk : kk ≤ n) (p q : Nat → ByteArray) (w : World) (h0 : a0 = none → n = 0) (ha : 0 < n → a0 = some ⟨b, off, none⟩) (hn : n ≤ 4096) (hm : m ≤ 4096) (hb : 0 < n → b < w.heap.size) (hc : Pairs w b off n p q)
    (b1 off1 : Nat) (zi : Nat → Int) (xf yf : Nat → Nat) (h1 : a1 = none → m = 0) (ha1 : 0 < m → a1 = some ⟨b1, off1, none⟩) (hb1 : 0 < m → b1 < w.heap.size) (hc1 : Trips w b1 off1 m zi xf yf) (hs : ∀ j, j < n → (p j).size ≤ maxLen) :
    Calls Try.prog 4 #[.slice a0 n c0, .slice a1 m c1, .int .i64 kk] w fun e w' => e = .returned (.bool true) ∧ Below w.heap.size w w' := by
  have HA : Aside (0 < n → a0 = some ⟨b, off, none⟩) := ha
  have HB : Aside (0 < n → b < w.heap.size) := hb
  have HC : Aside (Pairs w b off n p q) := hc
  have H0 : Aside (a0 = none → n = 0) := h0
  have H1 : Aside (a1 = none → m = 0) := h1
  have HA1 : Aside (0 < m → a1 = some ⟨b1, off1, none⟩) := ha1
  have HB1 : Aside (0 < m → b1 < w.heap.size) := hb1
  have HC1 : Aside (Trips w b1 off1 m zi xf yf) := hc1
  have HS : Aside (∀ j, j < n → (p j).size ≤ maxLen) := hs
  clear h0 ha hb hc h1 ha1 hb1 hc1 hs
  have hkz : ¬ (kk : Int) < 0 := by omega
  have hki : (kk : Int) ≤ (n : Int) := by omega
  go_enter Try.func4, Try.ntmps4
  go_wp2_with fail
  refine (bytes9 _ _ b off _ _ _ _ _ p q _ HA.out (by unfold maxLen; omega) (by unfold maxLen; omega) HC.out).mono ?_
  rintro e w' ⟨⟨r, rfl⟩, rfl⟩
  cases r
  · go_wp2
    go_ret
    exact ⟨rfl, Below.refl _ _⟩
  go_wp2_with fail
  refine (over6 _ _ b off _ _ _ _ p q _ HA.out hn hm HC.out).mono ?_
  rintro e w' ⟨⟨r, rfl⟩, d, rfl⟩
  cases r
  rotate_left
  · go_wp2
    go_ret
    exact ⟨rfl, Go.below_drewN (Below.refl _ _) d⟩
  have hB : Below w.heap.size w (w.drewN d) := Go.below_drewN (Below.refl _ _) d
  generalize w.drewN d = wr at hB ⊢
  have HBR : Aside (0 < n → b < wr.heap.size) := fun h => Nat.lt_of_lt_of_le (HB.out h) hB.size
  have HB1R : Aside (0 < m → b1 < wr.heap.size) := fun h => Nat.lt_of_lt_of_le (HB1.out h) hB.size
  have hpr := HC.out.below hB HB.out
  have htr := HC1.out.below hB HB1.out
  go_wp2_with fail
  refine (build7 _ _ b off _ _ _ _ p q _ H0.out HA.out hn hm HBR.out hpr b1 off1 zi xf yf H1.out HA1.out HB1R.out htr).mono ?_
  rintro e W4 ⟨rfl, av, g, hF⟩
  have c0 := hF.c0
  have fa : Aside (0 < n → av = some ⟨g, 0, none⟩) := hF.ha
  have fg : Aside (0 < n → g < W4.heap.size) := fun h => (hF.hg h).2
  have fp := hF.pairs
  have fb := hF.bel
  obtain ⟨ix, il, c1⟩ := hF.c1
  have fs := hF.sz
  clear hF HBR HB1R hpr htr
  go_wp2_with fail
  refine (apps8 _ g n n av p q _ c0 fa.out fg.out fp hn HS.out).mono ?_
  rintro e W5 ⟨rfl, hA, hB5⟩
  have bl5 : Below w.heap.size w W5 := (hB.trans (fb.mono hB.size)).trans (hB5.mono (Nat.le_trans hB.size fb.size))
  have d0 := (hB5.cell (p := ⟨wr.heap.size, 0, none⟩) fs).trans c0
  have d1 := (hB5.cell (p := ⟨wr.heap.size, 1, none⟩) fs).trans c1
  have fp5 := fp.below hB5 fg.out
  have fg5 : Aside (0 < n → g < W5.heap.size) := fun h => Nat.lt_of_lt_of_le (fg.out h) hB5.size
  clear c0 c1 fp fg fb hB hB5 fs
  generalize W4.heap.size + 1 = G4 at hA ⊢
  generalize wr.heap.size = T at d0 d1 ⊢
  have hrn := Plain.rank_le (nmOf p) n
  go_wp2
  go_loop [11, 12] (fun c i => ∃ k : Nat, k ≤ n ∧ i = .int .i64 k ∧ c = .int .i64 (Plain.rank (nmOf p) k)) (fun _ i => n - (intOf i).toNat)
  case atStart => exact ⟨0, Nat.zero_le _, rfl, rfl⟩
  case round =>
    obtain ⟨k, hk, rfl, rfl⟩ := hrel
    by_cases hlt : k < n
    · have q1 := hA.read k hlt hlt
      have hki : (k : Int) < (n : Int) := by omega
      have hrk := Plain.rank_le (nmOf p) k
      have hak := Plain.app_le (nmOf p) k
      have hS : Aside (Plain.rank (nmOf p) (k + 1) = if Plain.rank (nmOf p) k < Plain.app (nmOf p) k + 1 then Plain.app (nmOf p) k + 1 else Plain.rank (nmOf p) k) := rank_next _ _
      generalize Plain.rank (nmOf p) k = rk at hrk hS ⊢
      generalize Plain.app (nmOf p) k = ak at hak hS q1
      clear hA
      by_cases hc : rk < ak + 1
      · have hci : (rk : Int) < (ak : Int) + 1 := by omega
        go_wp2
        go_round
        case rel => exact ⟨k + 1, by omega, by go_num, by rw [hS.out, if_pos hc]; go_num⟩
        case measure => simp [intOf]; omega
      · have hci : ¬ (rk : Int) < (ak : Int) + 1 := by omega
        go_wp2
        go_round
        case rel => exact ⟨k + 1, by omega, by go_num, by rw [hS.out, if_neg hc]⟩
        case measure => simp [intOf]; omega
    · have e : n = k := by omega
      subst e
      rcases av with _ | x
      · have e : n = 0 := by
          rcases Nat.eq_zero_or_pos n with h | h
          · exact h
          · have := fa.out h; cases this
        subst e
        have e : kk = 0 := by omega
        subst e
        go_wp2
        go_region
        have bl6 : Below W5.heap.size W5 (W5.alloc (.cells #[.slice none 0 0, .slice ix il il] 37)).drew := ((Below.refl _ _).alloc (Nat.le_refl _) _).drew
        have e6 : (W5.alloc (.cells #[.slice none 0 0, .slice ix il il] 37)).drew.cell? ⟨W5.heap.size, 0, none⟩ = some (.slice none 0 0) := by simp
        go_wp2_with fail
        refine (apps8 _ 0 0 0 none p q _ e6 (fun h => absurd h (Nat.lt_irrefl _)) (fun h => absurd h (Nat.lt_irrefl _)) (fun j hj => absurd hj (Nat.not_lt_zero _)) (Nat.zero_le _) (fun j hj => absurd hj (Nat.not_lt_zero _))).mono ?_
        rintro e W7 ⟨rfl, hA7, hB7⟩
        have bl7 : Below w.heap.size w W7 := (bl5.trans (bl6.mono bl5.size)).trans (hB7.mono (by simp; exact Nat.le_succ_of_le bl5.size))
        clear bl6 e6 hB7 hA7 hA bl5
        have er : Plain.rank (nmOf p) 0 = 0 := rfl
        go_wp2
        refine wp_loop_rounds 1 ?_
        rw [rounds_succ]
        go_wp2
        go_ret
        exact ⟨rfl, bl7⟩
      · go_wp2
        go_region
        have bl6 : Below W5.heap.size W5 (W5.alloc (.cells #[.slice (some x) kk n, .slice ix il il] 37)).drew := ((Below.refl _ _).alloc (Nat.le_refl _) _).drew
        have e6 : (W5.alloc (.cells #[.slice (some x) kk n, .slice ix il il] 37)).drew.cell? ⟨W5.heap.size, 0, none⟩ = some (.slice (some x) kk n) := by simp
        have s6 : W5.heap.size ≤ (W5.alloc (.cells #[.slice (some x) kk n, .slice ix il il] 37)).drew.heap.size := bl6.size
        have fp6 : Pairs (W5.alloc (.cells #[.slice (some x) kk n, .slice ix il il] 37)).drew g 0 kk p q := fun j hj => (fp5.below bl6 fg5.out) j (by omega)
        go_wp2_with fail
        refine (apps8 _ g kk n (some x) p q _ e6 (fun h => fa.out (by omega)) (fun h => Nat.lt_of_lt_of_le (fg5.out (by omega)) s6) fp6 (by omega) (fun j hj => HS.out j (by omega))).mono ?_
        rintro e W7 ⟨rfl, hA7, hB7⟩
        have bl7 : Below w.heap.size w W7 := (bl5.trans (bl6.mono bl5.size)).trans (hB7.mono (Nat.le_trans bl5.size s6))
        have hA1 := (hA.kept (grownBy_of_below bl6) (by simp)).kept (grownBy_of_below hB7) (by simp)
        clear bl6 e6 s6 fp6 hB7 hA bl5 fp5 fg5 d0 d1
        generalize (W5.alloc (.cells #[.slice (some x) kk n, .slice ix il il] 37)).drew.heap.size + 1 = G6 at hA7 ⊢
        have hrk := Plain.rank_le (nmOf p) kk
        go_wp2
        go_loopw [16, 17] (fun c i wi => ∃ k d : Nat, k ≤ kk ∧ i = .int .i64 k ∧ c = .int .i64 (Plain.rank (nmOf p) k) ∧ wi = W7.drewN d) (fun _ i _ => kk - (intOf i).toNat)
        case atStart => exact ⟨0, 0, Nat.zero_le _, rfl, rfl, rfl⟩
        case round =>
          obtain ⟨k, d, hk, rfl, rfl, rfl⟩ := hrel
          by_cases hlt : k < kk
          · have q1 := hA7.read k hlt hlt
            have q2 := hA1.read k (by omega) (by omega)
            have hki1 : (k : Int) < (kk : Int) := by omega
            have hki2 : (k : Int) < (n : Int) := by omega
            have hrk := Plain.rank_le (nmOf p) k
            have hak := Plain.app_le (nmOf p) k
            have hS : Aside (Plain.rank (nmOf p) (k + 1) = if Plain.rank (nmOf p) k < Plain.app (nmOf p) k + 1 then Plain.app (nmOf p) k + 1 else Plain.rank (nmOf p) k) := rank_next _ _
            generalize Plain.rank (nmOf p) k = rk at hrk hS ⊢
            generalize Plain.app (nmOf p) k = ak at hak hS q1 q2
            clear hA7 hA1
            by_cases hc : rk < ak + 1
            · have hci : (rk : Int) < (ak : Int) + 1 := by omega
              go_wp2
              go_quiet (fail)
              go_wp2
              go_roundw
              case rel => exact ⟨k + 1, _, by omega, by go_num, by rw [hS.out, if_pos hc]; go_num, rfl⟩
              case measure => simp [intOf]; omega
            · have hci : ¬ (rk : Int) < (ak : Int) + 1 := by omega
              go_wp2
              go_quiet (fail)
              go_wp2
              go_roundw
              case rel => exact ⟨k + 1, _, by omega, by go_num, by rw [hS.out, if_neg hc], rfl⟩
              case measure => simp [intOf]; omega
          · have e : k = kk := by omega
            subst e
            go_wp2
            go_ret
            exact ⟨by simp, Go.below_drewN bl7 _⟩
end Go.Proofs.Qxb6630759a
