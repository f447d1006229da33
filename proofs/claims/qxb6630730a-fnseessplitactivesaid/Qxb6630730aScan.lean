import Derived.Test.Qxb6630730aLeaf
namespace Go.Proofs.Qxb6630730a
open Go.RowKit

theorem ret_bool {a b : Bool} (h : a = b) : Ending.returned (.bool a) = .returned (.bool b) := by rw [h]

theorem okTo_succ {zs : List Int} {next : Int} {k : Nat} (h : Plain.okTo zs next k) (h1 : zs.getD k 0 < next) (h2 : 0 < k → zs.getD (k - 1) 0 < zs.getD k 0) : Plain.okTo zs next (k + 1) := by
  intro i hi
  by_cases e : i = k
  · subst e; exact ⟨h1, h2⟩
  · exact h i (by omega)

set_option maxHeartbeats 1000000 in
theorem sorted6 (r : Bool) (a : Option Addr) (b off n c : Nat) (zs : List Int) (next : Int) (w : World) (ha : 0 < n → a = some ⟨b, off, none⟩) (hn : n ≤ 65536)
    (hc : ∀ j, j < n → w.cell? ⟨b, off + j, none⟩ = some (.int .u64 (zs.getD j 0))) (hr : r = true ↔ Plain.okTo zs next n) :
    Calls Try.prog 6 #[.slice a n c, .int .u64 next] w fun e w' => e = .returned (.bool r) ∧ ∃ q, w' = w.drewN q := by
  have HA : Aside (0 < n → a = some ⟨b, off, none⟩) := ha
  have HC : Aside (∀ j, j < n → w.cell? ⟨b, off + j, none⟩ = some (.int .u64 (zs.getD j 0))) := hc
  have HR : Aside (r = true ↔ Plain.okTo zs next n) := hr
  clear ha hc hr
  go_enter Try.func6, Try.ntmps6
  go_wp2
  go_loopw [5] (fun i wr => ∃ k q : Nat, k ≤ n ∧ i = .int .i64 k ∧ Aside (Plain.okTo zs next k) ∧ wr = w.drewN q) (fun i _ => n - (intOf i).toNat)
  case atStart => exact ⟨0, 0, Nat.zero_le _, rfl, fun i hi => absurd hi (Nat.not_lt_zero _), rfl⟩
  case round =>
    obtain ⟨k, q, hk, rfl, hok, rfl⟩ := hrel
    by_cases hlt : k < n
    · have ha := HA.out (by omega)
      subst ha
      have ck := HC.out k hlt
      generalize hy : zs.getD k 0 = y at ck
      have Y : Aside (zs.getD k 0 = y) := hy
      clear hy
      by_cases h1 : next ≤ y
      · go_wp2
        go_ret
        refine ⟨ret_bool ?_, _, rfl⟩
        cases r
        · rfl
        · have := (HR.out.1 rfl k hlt).1
          rw [Y.out] at this
          omega
      · rcases Nat.eq_zero_or_pos k with hk0 | hkp
        · subst hk0
          rw [Nat.add_zero] at ck
          have hd : decide ((0 : Int) < ((0 : Nat) : Int)) = false := by decide
          go_wp2
          go_quiet (fail)
          go_wp2
          go_roundw
          case rel => exact ⟨1, _, by omega, by go_num, okTo_succ hok.out (by rw [Y.out]; omega) (fun h => absurd h (Nat.lt_irrefl _)), rfl⟩
          case measure => simp [intOf]; omega
        · obtain ⟨m, rfl⟩ : ∃ m, k = m + 1 := ⟨k - 1, by omega⟩
          have cm := HC.out m (by omega)
          generalize hz : zs.getD m 0 = z at cm
          have Z : Aside (zs.getD m 0 = z) := hz
          clear hz
          have g1 : (m : Int) < (n : Int) := by omega
          have g2 : (m : Int) + 1 < (n : Int) := by omega
          have g3 : 0 < (m : Int) + 1 := by omega
          by_cases h2 : y ≤ z
          · go_wp2
            go_quiet (fail)
            go_wp2
            go_ret
            refine ⟨ret_bool ?_, _, World.drewN_drewN _ _ _⟩
            cases r
            · rfl
            · have := (HR.out.1 rfl (m + 1) hlt).2 (by omega)
              rw [Nat.add_sub_cancel, Y.out, Z.out] at this
              omega
          · go_wp2
            go_quiet (fail)
            go_wp2
            go_roundw
            case rel => exact ⟨m + 1 + 1, _, by omega, by go_num, okTo_succ hok.out (by rw [Y.out]; omega) (fun _ => by rw [Nat.add_sub_cancel, Y.out, Z.out]; omega), rfl⟩
            case measure => simp [intOf]; omega
    · go_wp2
      go_ret
      have : k = n := by omega
      subst this
      exact ⟨ret_bool (HR.out.2 hok.out).symm, _, rfl⟩

set_option maxHeartbeats 1000000 in
theorem has10 (r : Bool) (a : Option Addr) (b off n c : Nat) (zs : List Int) (x : Int) (w : World) (ha : 0 < n → a = some ⟨b, off, none⟩) (hn : n ≤ 65536)
    (hc : ∀ j, j < n → w.cell? ⟨b, off + j, none⟩ = some (.int .u64 (zs.getD j 0))) (hr : r = true ↔ Plain.has zs x n) :
    Calls Try.prog 10 #[.slice a n c, .int .u64 x] w fun e w' => e = .returned (.bool r) ∧ w' = w := by
  have HA : Aside (0 < n → a = some ⟨b, off, none⟩) := ha
  have HC : Aside (∀ j, j < n → w.cell? ⟨b, off + j, none⟩ = some (.int .u64 (zs.getD j 0))) := hc
  have HR : Aside (r = true ↔ Plain.has zs x n) := hr
  clear ha hc hr
  go_enter Try.func10, Try.ntmps10
  go_wp2
  go_loop [5] (fun i => ∃ k : Nat, k ≤ n ∧ i = .int .i64 k ∧ Aside (¬ Plain.has zs x k)) (fun i => n - (intOf i).toNat)
  case atStart => exact ⟨0, Nat.zero_le _, rfl, fun ⟨i, hi, _⟩ => absurd hi (Nat.not_lt_zero _)⟩
  case round =>
    obtain ⟨k, hk, rfl, hok⟩ := hrel
    by_cases hlt : k < n
    · have ha := HA.out (by omega)
      subst ha
      have ck := HC.out k hlt
      generalize hy : zs.getD k 0 = y at ck
      have Y : Aside (zs.getD k 0 = y) := hy
      clear hy
      by_cases h1 : y = x
      · have hb : (y == x) = true := by simp [h1]
        have H1 : Aside (y = x) := h1
        clear h1
        go_wp2
        go_ret
        refine ⟨ret_bool ?_, rfl⟩
        exact (HR.out.2 ⟨k, hlt, Y.out.trans H1.out⟩).symm
      · have hb : (y == x) = false := by simp [h1]
        go_wp2
        go_round
        case rel =>
          refine ⟨k + 1, by omega, by go_num, ?_⟩
          rintro ⟨j, hj, e⟩
          by_cases hjk : j = k
          · subst hjk; exact h1 (Y.out.symm.trans e)
          · exact hok.out ⟨j, by omega, e⟩
        case measure => simp [intOf]; omega
    · go_wp2
      go_ret
      have : k = n := by omega
      subst this
      refine ⟨ret_bool ?_, rfl⟩
      cases r
      · rfl
      · exact absurd (HR.out.1 rfl) hok.out
end Go.Proofs.Qxb6630730a
