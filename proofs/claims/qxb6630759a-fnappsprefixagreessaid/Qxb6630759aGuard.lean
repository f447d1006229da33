import Derived.Test.Qxb6630759aRows
import Derived.WalkKit
import Derived.WalkSpells
import Derived.Deep.LoopGhost
import Derived.Deep.Draws
import Derived.Deep.QuietTactic
import Derived.BigQuiet
namespace Go.Proofs.Qxb6630759a
open Go.RowKit
set_option linter.unusedVariables false

/-- It returned some bool. -/
def RetB (e : Ending) : Prop := ∃ r : Bool, e = .returned (.bool r)
theorem retB (r : Bool) : RetB (.returned (.bool r)) := ⟨r, rfl⟩

/-- A row of n pairs of strings. -/
def Pairs (W : World) (b off n : Nat) (p q : Nat → ByteArray) : Prop :=
  ∀ j, j < n → W.cell? ⟨b, off + j * 2, none⟩ = some (.string (p j)) ∧ W.cell? ⟨b, off + j * 2 + 1, none⟩ = some (.string (q j))

set_option maxHeartbeats 2000000 in
theorem bytes5 (a0 a1 : Option Addr) (b off n c0 m c1 : Nat) (p q : Nat → ByteArray) (w : World) (ha : 0 < n → a0 = some ⟨b, off, none⟩) (hn : n ≤ maxLen) (hm : m ≤ maxLen) (hc : Pairs w b off n p q) :
    Calls Try.prog 5 #[.slice a0 n c0, .slice a1 m c1] w fun e w' => RetB e ∧ w = w' := by
  have HA : Aside (0 < n → a0 = some ⟨b, off, none⟩) := ha
  have HC : Aside (Pairs w b off n p q) := hc
  clear ha hc
  unfold maxLen at hn hm
  go_enter Try.func5, Try.ntmps5
  by_cases h1 : n ≤ 1048576
  · go_wp2
    go_loop [5, 6] (fun t i => ∃ k : Nat, ∃ z : Int, k ≤ n ∧ i = .int .i64 k ∧ t = .int .i64 z) (fun _ i => n - (intOf i).toNat)
    case atStart => exact ⟨0, _, Nat.zero_le _, rfl, rfl⟩
    case round =>
      obtain ⟨k, z, hk, rfl, rfl⟩ := hrel
      by_cases hlt : k < n
      · have ha := HA.out (by omega)
        subst ha
        obtain ⟨ck, dk⟩ := HC.out k hlt
        go_wp2
        iterate 4
          · go_ret
            exact ⟨retB _, rfl⟩
        go_round
        case rel => exact ⟨k + 1, _, by omega, by go_num, rfl⟩
        case measure => simp [intOf]; omega
      · go_wp2
        all_goals
          go_ret
          exact ⟨retB _, rfl⟩
  · go_wp2
    go_ret
    exact ⟨retB _, rfl⟩

set_option maxHeartbeats 2000000 in
theorem bytes9 (a0 a1 : Option Addr) (b off n c0 m c1 : Nat) (kk : Int) (p q : Nat → ByteArray) (w : World) (ha : 0 < n → a0 = some ⟨b, off, none⟩) (hn : n ≤ maxLen) (hm : m ≤ maxLen) (hc : Pairs w b off n p q) :
    Calls Try.prog 9 #[.slice a0 n c0, .slice a1 m c1, .int .i64 kk] w fun e w' => RetB e ∧ w = w' := by
  have HA : Aside (0 < n → a0 = some ⟨b, off, none⟩) := ha
  have HC : Aside (Pairs w b off n p q) := hc
  clear ha hc
  unfold maxLen at hn hm
  go_enter Try.func9, Try.ntmps9
  by_cases h1 : n ≤ 1048576
  · go_wp2
    go_loop [7, 8] (fun t i => ∃ k : Nat, ∃ z : Int, k ≤ n ∧ i = .int .i64 k ∧ t = .int .i64 z) (fun _ i => n - (intOf i).toNat)
    case atStart => exact ⟨0, _, Nat.zero_le _, rfl, rfl⟩
    case round =>
      obtain ⟨k, z, hk, rfl, rfl⟩ := hrel
      by_cases hlt : k < n
      · have ha := HA.out (by omega)
        subst ha
        obtain ⟨ck, dk⟩ := HC.out k hlt
        go_wp2
        iterate 4
          · go_ret
            exact ⟨retB _, rfl⟩
        go_round
        case rel => exact ⟨k + 1, _, by omega, by go_num, rfl⟩
        case measure => simp [intOf]; omega
      · go_wp2
        all_goals
          go_ret
          exact ⟨retB _, rfl⟩
  · go_wp2
    go_ret
    exact ⟨retB _, rfl⟩

set_option maxHeartbeats 2000000 in
/-- zzOverBytes, where one list is long. -/
theorem over6_long (a0 a1 : Option Addr) (n c0 m c1 : Nat) (w : World) (hn : n ≤ maxLen) (hm : m ≤ maxLen) (h : ¬ (n ≤ 4096 ∧ m ≤ 4096)) :
    Calls Try.prog 6 #[.slice a0 n c0, .slice a1 m c1] w fun e w' => e = .returned (.bool true) ∧ w = w' := by
  unfold maxLen at hn hm
  by_cases h1 : n ≤ 4096
  · have h2 : ¬ m ≤ 4096 := fun h2 => h ⟨h1, h2⟩
    clear h
    go_enter Try.func6, Try.ntmps6
    go_wp2
    go_ret
    exact ⟨rfl, rfl⟩
  · clear h
    go_enter Try.func6, Try.ntmps6
    go_wp2
    go_ret
    exact ⟨rfl, rfl⟩

set_option maxHeartbeats 2000000 in
/-- zzOverBytes, where both lists are short: some bool. -/
theorem over6 (a0 a1 : Option Addr) (b off n c0 m c1 : Nat) (p q : Nat → ByteArray) (w : World) (ha : 0 < n → a0 = some ⟨b, off, none⟩) (hn : n ≤ 4096) (hm : m ≤ 4096) (hc : Pairs w b off n p q) :
    Calls Try.prog 6 #[.slice a0 n c0, .slice a1 m c1] w fun e w' => RetB e ∧ ∃ nq, w' = w.drewN nq := by
  have HA : Aside (0 < n → a0 = some ⟨b, off, none⟩) := ha
  have HC : Aside (Pairs w b off n p q) := hc
  clear ha hc
  go_enter Try.func6, Try.ntmps6
  go_wp2
  go_loopw [5, 6] (fun t i wr => ∃ k d : Nat, ∃ z : Int, k ≤ n ∧ i = .int .i64 k ∧ t = .int .i64 z ∧ wr = w.drewN d) (fun _ i _ => n - (intOf i).toNat)
  case atStart => exact ⟨0, 0, _, Nat.zero_le _, rfl, rfl, rfl⟩
  case round =>
    obtain ⟨k, d, z, hk, rfl, rfl, rfl⟩ := hrel
    by_cases hlt : k < n
    · have ha := HA.out (by omega)
      subst ha
      obtain ⟨ck, dk⟩ := HC.out k hlt
      have hki : (k : Int) < (n : Int) := by omega
      go_wp2
      go_quiet (fail)
      go_wp2
      · go_ret
        exact ⟨retB _, _, rfl⟩
      · go_roundw
        case rel => exact ⟨k + 1, _, _, by omega, by go_num, rfl, rfl⟩
        case measure => simp [intOf]; omega
    · go_wp2
      go_ret
      exact ⟨retB _, _, rfl⟩
end Go.Proofs.Qxb6630759a
