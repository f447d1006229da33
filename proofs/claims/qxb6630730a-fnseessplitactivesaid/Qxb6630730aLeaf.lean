import Derived.Test.Qxb6630730aRows
import Derived.Test.Qxb6630730aMath
import Derived.WalkKit
import Derived.WalkSpells
import Derived.Deep.LoopGhost
import Derived.Deep.Draws
import Derived.Deep.QuietTactic
import Derived.BigQuiet
import Derived.Lib.Walk
import Derived.Lib.SlicesSearch
namespace Go.Proofs.Qxb6630730a
open Go.RowKit

/-! ### the guards on the total length -/
theorem bytes11 (a0 : Int) (a : Option Addr) (n c : Nat) (a2 : Int) (a3 : Bool) (a4 a5 : Int) (w : World) (hn : n ≤ 65536) :
    Calls Try.prog 11 #[.int .u64 a0, .slice a n c, .int .u64 a2, .bool a3, .int .i64 a4, .int .u64 a5] w fun e w' => e = .returned (.bool true) ∧ w' = w := by
  go_enter Try.func11, Try.ntmps11
  go_wp2
  go_ret
  exact ⟨rfl, rfl⟩
theorem bytes11_any (a0 : Int) (a : Option Addr) (n c : Nat) (a2 : Int) (a3 : Bool) (a4 a5 : Int) (w : World) (hn : n ≤ maxLen) :
    Calls Try.prog 11 #[.int .u64 a0, .slice a n c, .int .u64 a2, .bool a3, .int .i64 a4, .int .u64 a5] w fun e w' => e = .returned (.bool (decide (n ≤ 1048576))) ∧ w' = w := by
  unfold maxLen at hn
  by_cases h : n ≤ 1048576
  · rw [decide_eq_true h]
    go_enter Try.func11, Try.ntmps11
    go_wp2
    go_ret
    exact ⟨rfl, rfl⟩
  · rw [decide_eq_false h]
    go_enter Try.func11, Try.ntmps11
    go_wp2
    go_ret
    exact ⟨rfl, rfl⟩
theorem bytes5_any (a0 : Int) (a : Option Addr) (n c : Nat) (a2 : Int) (a3 : Bool) (a4 a5 : Int) (w : World) (hn : n ≤ maxLen) :
    Calls Try.prog 5 #[.int .u64 a0, .slice a n c, .int .u64 a2, .bool a3, .int .i64 a4, .int .u64 a5] w fun e w' => e = .returned (.bool (decide (n ≤ 1048576))) ∧ w' = w := by
  unfold maxLen at hn
  by_cases h : n ≤ 1048576
  · rw [decide_eq_true h]
    go_enter Try.func5, Try.ntmps5
    go_wp2
    go_ret
    exact ⟨rfl, rfl⟩
  · rw [decide_eq_false h]
    go_enter Try.func5, Try.ntmps5
    go_wp2
    go_ret
    exact ⟨rfl, rfl⟩

/-! ### cmp.Less, the two isNaN -/
theorem isNaN16 (x : Int) (w : World) : Calls Try.prog 16 #[.int .u64 x] w fun e w' => e = .returned (.bool false) ∧ w' = w := by
  go_enter Try.func16, Try.ntmps16
  go_wp2
  go_ret
  exact ⟨by simp, rfl⟩
theorem isNaN15 (x : Int) (w : World) : Calls Try.prog 15 #[.int .u64 x] w fun e w' => e = .returned (.bool false) ∧ w' = w := by
  go_enter Try.func15, Try.ntmps15
  go_wp2
  go_ret
  exact ⟨by simp, rfl⟩
theorem less14 (x y : Int) (w : World) : Calls Try.prog 14 #[.int .u64 x, .int .u64 y] w fun e w' => e = .returned (.bool (decide (x < y))) ∧ w' = w := by
  go_enter Try.func14, Try.ntmps14
  go_wp2_with (go_at_call 16; refine (isNaN16 _ _).mono ?_; rintro e w' ⟨rfl, rfl⟩)
  go_ret
  exact ⟨rfl, rfl⟩

set_option maxHeartbeats 4000000 in
set_option maxRecDepth 1000000 in
/-- slices.BinarySearch at []txn.ID, after the shelf's proof at []int. -/
theorem search13 (b off n c : Nat) (zs : List Int) (x : Int) (w : World) (hz : n ≤ zs.length) (hbig : n < 4611686018427387904) (hc : ∀ j, j < zs.length → w.cell? ⟨b, off + j, none⟩ = some (.int .u64 (zs.getD j 0))) (hs : (zs.take n).Pairwise (· ≤ ·)) :
    Calls Try.prog 13 #[.slice (some ⟨b, off, none⟩) n c, .int .u64 x] w fun e w' => e = .returned (.tuple #[.int .i64 ((zs.take n).countP (· < x) : Nat), .bool ((zs.take n).contains x)]) ∧ ∃ q, w' = w.drewN q := by
  have S : Aside (∀ a b, a ≤ b → b < n → zs.getD a 0 ≤ zs.getD b 0) := Lib.sorted_at zs n hz hs
  clear hs
  go_enter Try.func13, Try.ntmps13
  go_wp2
  go_loopg [7, 8] n (fun g s7 s8 wr => ∃ lo hi q : Nat, s7 = .int .i64 lo ∧ s8 = .int .i64 hi ∧ lo ≤ hi ∧ hi ≤ n ∧ hi - lo ≤ g ∧ wr = w.drewN q ∧ (∀ t, t < lo → zs.getD t 0 < x) ∧ (∀ t, hi ≤ t → t < n → x ≤ zs.getD t 0))
  case atStart => exact ⟨0, n, 0, rfl, rfl, Nat.zero_le _, Nat.le_refl _, by omega, rfl, fun t ht => absurd ht (Nat.not_lt_zero _), fun t h1 h2 => by omega⟩
  case round =>
    obtain ⟨lo, hi, q, rfl, rfl, hlh, hin, hg, rfl, h1, h2⟩ := hrel
    have I : Aside ((∀ t, t < lo → zs.getD t 0 < x) ∧ (∀ t, hi ≤ t → t < n → x ≤ zs.getD t 0)) := ⟨h1, h2⟩
    clear h1 h2
    by_cases hlt : lo < hi
    · have cm : w.cell? ⟨b, off + (lo + hi) / 2, none⟩ = some (.int .u64 (zs.getD ((lo + hi) / 2) 0)) := hc _ (by omega)
      clear hc
      generalize hy : zs.getD ((lo + hi) / 2) 0 = y at cm
      have Y : Aside (zs.getD ((lo + hi) / 2) 0 = y) := hy
      clear hy
      by_cases hyx : y < x
      · go_wp2_with (first | (go_at_call 14; refine (less14 _ _ _).mono ?_; rintro e w' ⟨rfl, rfl⟩) | (go_at_call 15; refine (isNaN15 _ _).mono ?_; rintro e w' ⟨rfl, rfl⟩))
        go_roundg (hi - ((lo + hi) / 2 + 1))
        case measure => omega
        case rel =>
          refine ⟨(lo + hi) / 2 + 1, hi, _, by rw [show ((lo : Int) + (hi : Int)) / 2 + 1 = (((lo + hi) / 2 + 1 : Nat) : Int) by omega], rfl, by omega, hin, Nat.le_refl _, rfl, fun t ht => ?_, I.out.2⟩
          have := S.out t ((lo + hi) / 2) (by omega) (by omega)
          rw [Y.out] at this
          omega
      · go_wp2_with (first | (go_at_call 14; refine (less14 _ _ _).mono ?_; rintro e w' ⟨rfl, rfl⟩) | (go_at_call 15; refine (isNaN15 _ _).mono ?_; rintro e w' ⟨rfl, rfl⟩))
        go_roundg ((lo + hi) / 2 - lo)
        case measure => omega
        case rel =>
          refine ⟨lo, (lo + hi) / 2, _, rfl, by rw [show ((lo : Int) + (hi : Int)) / 2 = (((lo + hi) / 2 : Nat) : Int) by omega], by omega, by omega, Nat.le_refl _, rfl, I.out.1, fun t ht htn => ?_⟩
          have := S.out ((lo + hi) / 2) t ht htn
          rw [Y.out] at this
          omega
    · have : hi = lo := by omega
      subst this
      obtain ⟨e1, e2⟩ := Lib.search_end zs n hi x hz hin I.out.1 I.out.2 S.out
      have E : Aside ((zs.take n).countP (· < x) = hi ∧ (zs.take n).contains x = decide (hi < n ∧ zs.getD hi 0 = x)) := ⟨e1, e2⟩
      clear e1 e2
      by_cases hn : hi < n
      · have cl : w.cell? ⟨b, off + hi, none⟩ = some (.int .u64 (zs.getD hi 0)) := hc _ (by omega)
        clear hc
        generalize hy : zs.getD hi 0 = y at cl
        have Y : Aside (zs.getD hi 0 = y) := hy
        clear hy
        by_cases hyx : y = x
        · go_wp2_with (first | (go_at_call 14; refine (less14 _ _ _).mono ?_; rintro e w' ⟨rfl, rfl⟩) | (go_at_call 15; refine (isNaN15 _ _).mono ?_; rintro e w' ⟨rfl, rfl⟩))
          go_ret2
          refine ⟨?_, _, rfl⟩
          rw [E.out.1, E.out.2, Y.out, decide_eq_true (show hi < n ∧ y = x from ⟨hn, hyx⟩)]
          first | rfl | simp [*]
        · go_wp2_with (first | (go_at_call 14; refine (less14 _ _ _).mono ?_; rintro e w' ⟨rfl, rfl⟩) | (go_at_call 15; refine (isNaN15 _ _).mono ?_; rintro e w' ⟨rfl, rfl⟩))
          go_ret2
          refine ⟨?_, _, rfl⟩
          rw [E.out.1, E.out.2, Y.out, decide_eq_false (show ¬ (hi < n ∧ y = x) from fun h => hyx h.2)]
          first | rfl | simp [*]
      · clear hc
        go_wp2_with (first | (go_at_call 14; refine (less14 _ _ _).mono ?_; rintro e w' ⟨rfl, rfl⟩) | (go_at_call 15; refine (isNaN15 _ _).mono ?_; rintro e w' ⟨rfl, rfl⟩))
        go_ret2
        refine ⟨?_, _, rfl⟩
        rw [E.out.1, E.out.2, decide_eq_false (show ¬ (hi < n ∧ zs.getD hi 0 = x) from fun h => hn h.1)]
        first | rfl | simp [*]
end Go.Proofs.Qxb6630730a
