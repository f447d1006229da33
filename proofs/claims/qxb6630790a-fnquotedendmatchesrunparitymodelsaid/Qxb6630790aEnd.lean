import Derived.Test.Qxb6630790aRows
import Derived.Test.Qxb6630790aMath
import Derived.WalkKit
import Derived.WalkSpells
import Derived.Deep.LoopGhost
import Derived.Deep.Draws
import Derived.Deep.QuietTactic
import Derived.BigQuiet
namespace Go.Proofs.Qxb6630790a
open Go.RowKit
set_option linter.unusedVariables false

/-- The byte at j, as a number. -/
def bt (s : ByteArray) (j : Nat) : Nat := if h : j < s.size then (s[j]'h).toNat else 0
theorem bt_eq (s : ByteArray) (j : Nat) (h : j < s.size) : (s[j]'h).toNat = bt s j := by unfold bt; rw [dif_pos h]

theorem ret_int {k : IntKind} {a b : Int} (h : a = b) : Ending.returned (.int k a) = .returned (.int k b) := by rw [h]

set_option maxHeartbeats 2000000 in
theorem end9 (s : ByteArray) (i : Nat) (esc : Bool) (w : World) (hs : s.size ≤ 4194304) (hi : i < s.size) :
    Calls Try.prog 9 #[.string s, .int .i64 i, .bool esc] w fun e w' => e = .returned (.int .i64 (Plain.Q (bt s) s.size (bt s i) esc (i + 1))) ∧ w = w' := by
  have e0 := bt_eq s i hi
  go_enter Try.func9, Try.ntmps9
  go_wp2
  go_loop [1] (fun v => ∃ k : Nat, v = .int .i64 k ∧ k ≤ s.size + 1 ∧ Aside (Plain.Q (bt s) s.size (bt s i) esc (i + 1) = Plain.Q (bt s) s.size (bt s i) esc k)) (fun v => s.size + 1 - (intOf v).toNat)
  case atStart => exact ⟨i + 1, by go_num, by omega, rfl⟩
  case round =>
    obtain ⟨k, rfl, hk, hQ⟩ := hrel
    by_cases hlt : k < s.size
    · have e1 := bt_eq s k hlt
      by_cases h92 : bt s k = 92
      · have hb : ((bt s k : Int) == 92) = true := beq_iff_eq.2 (by omega)
        have H92 : Aside (bt s k = 92) := h92
        clear h92
        cases esc
        · go_wp2
          go_round
          case rel => exact ⟨k + 1, by go_num, by omega, hQ.out.trans (Plain.Q_bs_raw hlt H92.out rfl)⟩
          case measure => simp [intOf]; omega
        · go_wp2
          go_round
          case rel => exact ⟨k + 2, by go_num, by omega, hQ.out.trans (Plain.Q_bs_esc hlt H92.out rfl)⟩
          case measure => simp [intOf]; omega
      · have hb : ((bt s k : Int) == 92) = false := beq_eq_false_iff_ne.2 (by omega)
        by_cases hq : bt s k = bt s i
        · have hb2 : ((bt s k : Int) == (bt s i : Int)) = true := beq_iff_eq.2 (by omega)
          have HQ : Aside (bt s k = bt s i) := hq
          clear hq
          by_cases h1 : k + 1 < s.size
          · have e2 := bt_eq s (k + 1) h1
            have h1i : (k : Int) + 1 < (s.size : Int) := by omega
            by_cases hq2 : bt s (k + 1) = bt s i
            · have hb3 : ((bt s (k + 1) : Int) == (bt s i : Int)) = true := beq_iff_eq.2 (by omega)
              have HQ2 : Aside (bt s (k + 1) = bt s i) := hq2
              clear hq2
              go_wp2
              go_round
              case rel => exact ⟨k + 2, by go_num, by omega, hQ.out.trans (Plain.Q_two h1 h92 HQ.out HQ2.out)⟩
              case measure => simp [intOf]; omega
            · have hb3 : ((bt s (k + 1) : Int) == (bt s i : Int)) = false := beq_eq_false_iff_ne.2 (by omega)
              go_wp2
              go_ret
              exact ⟨ret_int (by rw [hQ.out, Plain.Q_ret hlt h92 HQ.out (fun h => hq2 h.2)]; omega), rfl⟩
          · have h1i : ¬ (k : Int) + 1 < (s.size : Int) := by omega
            go_wp2
            go_ret
            exact ⟨ret_int (by rw [hQ.out, Plain.Q_ret hlt h92 HQ.out (fun h => h1 h.1)]; omega), rfl⟩
        · have hb2 : ((bt s k : Int) == (bt s i : Int)) = false := beq_eq_false_iff_ne.2 (by omega)
          go_wp2
          go_round
          case rel => exact ⟨k + 1, by go_num, by omega, hQ.out.trans (Plain.Q_other hlt h92 hq)⟩
          case measure => simp [intOf]; omega
    · go_wp2
      go_ret
      exact ⟨ret_int (by rw [hQ.out, Plain.Q_end (by omega)]), rfl⟩

/-- ZZquotedEnd, the place as a number. -/
theorem end6 (s : ByteArray) (i : Nat) (z : Int) (esc : Bool) (r : Nat) (w : World) (hz : z = (i : Int)) (hs : s.size ≤ 4194304) (hi : i < s.size) (hr : Plain.Q (bt s) s.size (bt s i) esc (i + 1) = r) :
    Calls Try.prog 6 #[.string s, .int .i64 z, .bool esc] w fun e w' => e = .returned (.int .i64 r) ∧ w = w' := by
  subst hz; subst hr
  go_enter Try.func6, Try.ntmps6
  go_wp2_with (go_at_call 9; refine (end9 s i esc _ hs hi).mono ?_; rintro e w' ⟨rfl, rfl⟩)
  go_ret
  exact ⟨rfl, rfl⟩
end Go.Proofs.Qxb6630790a
