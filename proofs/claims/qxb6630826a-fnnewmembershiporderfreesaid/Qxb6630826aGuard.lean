import Derived.Test.Qxb6630826aRows
import Derived.WalkKit
import Derived.WalkSpells
import Derived.Deep.LoopGhost
import Derived.Deep.Draws
import Derived.Deep.QuietTactic
import Derived.BigQuiet
namespace Go.Proofs.Qxb6630826a
open Go.RowKit
set_option linter.unusedVariables false

/-- It returned some bool. -/
def RetB (e : Ending) : Prop := ∃ r : Bool, e = .returned (.bool r)
theorem retB (r : Bool) : RetB (.returned (.bool r)) := ⟨r, rfl⟩

/-- A row of n members: id, address, role. -/
def Mems (W : World) (b off n : Nat) (M : Nat → ByteArray × ByteArray × Int) : Prop :=
  ∀ j, j < n → W.cell? ⟨b, off + j * 3, none⟩ = some (.string (M j).1) ∧ W.cell? ⟨b, off + j * 3 + 1, none⟩ = some (.string (M j).2.1) ∧ W.cell? ⟨b, off + j * 3 + 2, none⟩ = some (.int .i64 (M j).2.2)

set_option maxHeartbeats 2000000 in
theorem bytes5 (a0 : Option Addr) (b off n c0 : Nat) (M : Nat → ByteArray × ByteArray × Int) (w : World) (ha : 0 < n → a0 = some ⟨b, off, none⟩) (hn : n ≤ maxLen) (hc : Mems w b off n M) :
    Calls Try.prog 5 #[.slice a0 n c0] w fun e w' => RetB e ∧ w = w' := by
  have HA : Aside (0 < n → a0 = some ⟨b, off, none⟩) := ha
  have HC : Aside (Mems w b off n M) := hc
  clear ha hc
  unfold maxLen at hn
  go_enter Try.func5, Try.ntmps5
  by_cases h1 : n ≤ 1048576
  · go_wp2
    go_loop [3, 4] (fun t i => ∃ k : Nat, ∃ z : Int, k ≤ n ∧ i = .int .i64 k ∧ t = .int .i64 z) (fun _ i => n - (intOf i).toNat)
    case atStart => exact ⟨0, _, Nat.zero_le _, rfl, rfl⟩
    case round =>
      obtain ⟨k, z, hk, rfl, rfl⟩ := hrel
      by_cases hlt : k < n
      · have ha := HA.out (by omega)
        subst ha
        obtain ⟨ck, dk, ek⟩ := HC.out k hlt
        generalize (M k).1 = s1 at ck
        generalize (M k).2.1 = s2 at dk
        clear ek
        go_wp2
        iterate 4
          · go_ret
            exact ⟨retB _, rfl⟩
        go_round
        case rel => exact ⟨k + 1, _, by omega, by go_num, rfl⟩
        case measure => simp [intOf]; omega
      · go_wp2
        all_goals
          go_ret
          exact ⟨retB _, rfl⟩
  · go_wp2
    go_ret
    exact ⟨retB _, rfl⟩

set_option maxHeartbeats 2000000 in
theorem bytes10 (a0 : Option Addr) (b off n c0 : Nat) (kk : Int) (M : Nat → ByteArray × ByteArray × Int) (w : World) (ha : 0 < n → a0 = some ⟨b, off, none⟩) (hn : n ≤ maxLen) (hc : Mems w b off n M) :
    Calls Try.prog 10 #[.slice a0 n c0, .int .i64 kk] w fun e w' => RetB e ∧ w = w' := by
  have HA : Aside (0 < n → a0 = some ⟨b, off, none⟩) := ha
  have HC : Aside (Mems w b off n M) := hc
  clear ha hc
  unfold maxLen at hn
  go_enter Try.func10, Try.ntmps10
  by_cases h1 : n ≤ 1048576
  · go_wp2
    go_loop [5, 6] (fun t i => ∃ k : Nat, ∃ z : Int, k ≤ n ∧ i = .int .i64 k ∧ t = .int .i64 z) (fun _ i => n - (intOf i).toNat)
    case atStart => exact ⟨0, _, Nat.zero_le _, rfl, rfl⟩
    case round =>
      obtain ⟨k, z, hk, rfl, rfl⟩ := hrel
      by_cases hlt : k < n
      · have ha := HA.out (by omega)
        subst ha
        obtain ⟨ck, dk, ek⟩ := HC.out k hlt
        generalize (M k).1 = s1 at ck
        generalize (M k).2.1 = s2 at dk
        clear ek
        go_wp2
        iterate 4
          · go_ret
            exact ⟨retB _, rfl⟩
        go_round
        case rel => exact ⟨k + 1, _, by omega, by go_num, rfl⟩
        case measure => simp [intOf]; omega
      · go_wp2
        all_goals
          go_ret
          exact ⟨retB _, rfl⟩
  · go_wp2
    go_ret
    exact ⟨retB _, rfl⟩

/-- nmSizeOK, where the list is long. -/
theorem size6_long (a0 : Option Addr) (n c0 : Nat) (w : World) (hn : n ≤ maxLen) (h : ¬ n ≤ 4096) :
    Calls Try.prog 6 #[.slice a0 n c0] w fun e w' => e = .returned (.bool false) ∧ w = w' := by
  unfold maxLen at hn
  go_enter Try.func6, Try.ntmps6
  go_wp2
  go_ret
  exact ⟨rfl, rfl⟩

set_option maxHeartbeats 2000000 in
/-- nmSizeOK, where the list is short: some bool. -/
theorem size6 (a0 : Option Addr) (b off n c0 : Nat) (M : Nat → ByteArray × ByteArray × Int) (w : World) (ha : 0 < n → a0 = some ⟨b, off, none⟩) (hn : n ≤ 4096) (hc : Mems w b off n M) :
    Calls Try.prog 6 #[.slice a0 n c0] w fun e w' => RetB e ∧ w = w' := by
  have HA : Aside (0 < n → a0 = some ⟨b, off, none⟩) := ha
  have HC : Aside (Mems w b off n M) := hc
  clear ha hc
  go_enter Try.func6, Try.ntmps6
  go_wp2
  go_loop [3, 4] (fun t i => ∃ k : Nat, ∃ z : Int, k ≤ n ∧ i = .int .i64 k ∧ t = .int .i64 z) (fun _ i => n - (intOf i).toNat)
  case atStart => exact ⟨0, _, Nat.zero_le _, rfl, rfl⟩
  case round =>
    obtain ⟨k, z, hk, rfl, rfl⟩ := hrel
    by_cases hlt : k < n
    · have ha := HA.out (by omega)
      subst ha
      obtain ⟨ck, dk, ek⟩ := HC.out k hlt
      generalize (M k).1 = s1 at ck
      generalize (M k).2.1 = s2 at dk
      clear ek
      have hki : (k : Int) < (n : Int) := by omega
      by_cases h1 : s1.size ≤ 1048576
      · by_cases h2 : s2.size ≤ 1048576
        · go_wp2
          · go_ret
            exact ⟨retB _, rfl⟩
          · go_round
            case rel => exact ⟨k + 1, _, by omega, by go_num, rfl⟩
            case measure => simp [intOf]; omega
        · go_wp2
          go_ret
          exact ⟨retB _, rfl⟩
      · go_wp2
        go_ret
        exact ⟨retB _, rfl⟩
    · go_wp2
      go_ret
      exact ⟨retB _, rfl⟩

/-- No two ids among the first n are one. -/
def Dist (M : Nat → ByteArray × ByteArray × Int) (n : Nat) : Prop := ∀ i, i < n → ∀ j, j < i → (M i).1.toList ≠ (M j).1.toList

theorem ret_bool {a b : Bool} (h : a = b) : Ending.returned (.bool a) = .returned (.bool b) := by rw [h]

set_option maxHeartbeats 2000000 in
/-- nmDistinctIDs. -/
theorem distinct7 (r : Bool) (a0 : Option Addr) (b off n c0 : Nat) (M : Nat → ByteArray × ByteArray × Int) (w : World) (ha : 0 < n → a0 = some ⟨b, off, none⟩) (hn : n ≤ 4096) (hc : Mems w b off n M) (hr : r = true ↔ Dist M n) :
    Calls Try.prog 7 #[.slice a0 n c0] w fun e w' => e = .returned (.bool r) ∧ ∃ d, w' = w.drewN d := by
  have HA : Aside (0 < n → a0 = some ⟨b, off, none⟩) := ha
  have HC : Aside (Mems w b off n M) := hc
  have HR : Aside (r = true ↔ Dist M n) := hr
  clear ha hc hr
  go_enter Try.func7, Try.ntmps7
  go_wp2
  go_loopw [3] (fun v wr => ∃ i d : Nat, i ≤ n ∧ v = .int .i64 i ∧ Aside (Dist M i) ∧ wr = w.drewN d) (fun v _ => n - (intOf v).toNat)
  case atStart => exact ⟨0, 0, Nat.zero_le _, rfl, fun i hi => absurd hi (Nat.not_lt_zero _), rfl⟩
  case round =>
    obtain ⟨i, d, hi, rfl, hD, rfl⟩ := hrel
    by_cases hlt : i < n
    · have ha := HA.out (by omega)
      subst ha
      obtain ⟨ck, _, _⟩ := HC.out i hlt
      have hii : (i : Int) < (n : Int) := by omega
      go_wp2
      go_loopw [4] (fun v wr => ∃ j d : Nat, j ≤ i ∧ v = .int .i64 j ∧ Aside (∀ x, x < j → (M i).1.toList ≠ (M x).1.toList) ∧ wr = w.drewN d) (fun v _ => i - (intOf v).toNat)
      case atStart => exact ⟨0, d, Nat.zero_le _, rfl, fun x hx => absurd hx (Nat.not_lt_zero _), rfl⟩
      case round =>
        obtain ⟨j, d, hj, rfl, hJ, rfl⟩ := hrel
        by_cases hjl : j < i
        · obtain ⟨cj, _, _⟩ := HC.out j (by omega)
          have hjn : (j : Int) < (n : Int) := by omega
          by_cases he : (M i).1.toList = (M j).1.toList
          · have hb : ((M i).1.toList == (M j).1.toList) = true := beq_iff_eq.2 he
            have HE : Aside ((M i).1.toList = (M j).1.toList) := he
            clear he
            go_wp2
            go_quiet (fail)
            go_wp2
            go_ret
            refine ⟨ret_bool ?_, _, World.drewN_drewN _ _ _⟩
            cases r
            · rfl
            · exact absurd HE.out (HR.out.1 rfl i hlt j hjl)
          · have hb : ((M i).1.toList == (M j).1.toList) = false := beq_eq_false_iff_ne.2 he
            go_wp2
            go_quiet (fail)
            go_wp2
            go_roundw
            case rel =>
              refine ⟨j + 1, _, by omega, by go_num, fun x hx => ?_, rfl⟩
              by_cases e : x = j
              · subst e; exact he
              · exact hJ.out x (by omega)
            case measure => simp [intOf]; omega
        · have e : j = i := by omega
          subst e
          go_wp2
          go_roundw
          case rel =>
            refine ⟨j + 1, _, by omega, by go_num, fun x hx y hy => ?_, rfl⟩
            by_cases e : x = j
            · subst e; exact hJ.out y hy
            · exact hD.out x (by omega) y hy
          case measure => simp [intOf]; omega
    · have e : n = i := by omega
      subst e
      go_wp2
      go_ret
      exact ⟨ret_bool (HR.out.2 hD.out).symm, _, rfl⟩
end Go.Proofs.Qxb6630826a
