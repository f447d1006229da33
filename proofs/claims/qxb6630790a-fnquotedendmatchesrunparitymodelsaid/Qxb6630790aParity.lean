import Derived.Test.Qxb6630790aEnd
namespace Go.Proofs.Qxb6630790a
open Go.RowKit
set_option linter.unusedVariables false

theorem parts (esc : Bool) (bs : Nat) : (esc = true ∧ bs % 2 = 1) ∨ esc = false ∨ (esc = true ∧ bs % 2 = 0) := by
  cases esc
  · exact Or.inr (Or.inl rfl)
  · rcases Nat.mod_two_eq_zero_or_one bs with h | h
    · exact Or.inr (Or.inr ⟨rfl, h⟩)
    · exact Or.inl ⟨rfl, h⟩

set_option maxHeartbeats 8000000 in
set_option maxRecDepth 100000 in
/-- zzRunParityEnd: it finds the same end. -/
theorem parity7 (s : ByteArray) (i : Nat) (z : Int) (esc : Bool) (r : Nat) (w : World) (hz : z = (i : Int)) (hs : s.size ≤ 4194304) (hi : i < s.size) (hq92 : bt s i ≠ 92) (hr : Plain.Q (bt s) s.size (bt s i) esc (i + 1) = r) :
    Calls Try.prog 7 #[.string s, .int .i64 z, .bool esc] w fun e w' => e = .returned (.int .i64 r) ∧ w = w' := by
  subst hz; subst hr
  have e0 := bt_eq s i hi
  have h92 : Aside (bt s i ≠ 92) := hq92
  clear hq92
  go_enter Try.func7, Try.ntmps7
  go_wp2
  go_loop [9, 10] (fun v9 v10 => ∃ j bs : Nat, j ≤ s.size ∧ bs ≤ j ∧ v10 = .int .i64 j ∧ v9 = .int .i64 bs ∧ Aside (Plain.Q (bt s) s.size (bt s i) esc (i + 1) = Plain.Q (bt s) s.size (bt s i) esc (Plain.at_ esc j bs))) (fun _ v => s.size - (intOf v).toNat)
  case atStart => exact ⟨i + 1, 0, by omega, by omega, by go_num, rfl, by rw [Plain.at_zero]; rfl⟩
  case round =>
    obtain ⟨j, bs, hj, hbs, rfl, rfl, hQ⟩ := hrel
    by_cases hlt : j < s.size
    · have e1 := bt_eq s j hlt
      by_cases hq : bt s j = bt s i
      · have hb : ((bt s j : Int) == (bt s i : Int)) = true := beq_iff_eq.2 (by omega)
        have HQ : Aside (bt s j = bt s i) := hq
        clear hq
        go_wp2
        go_loop [12] (fun v => ∃ k : Nat, j ≤ k ∧ k ≤ s.size ∧ v = .int .i64 k ∧ Aside (∀ x, j ≤ x → x < k → bt s x = bt s i)) (fun v => s.size - (intOf v).toNat)
        case atStart => exact ⟨j, Nat.le_refl _, hj, rfl, fun x h1 h2 => by omega⟩
        case round =>
          obtain ⟨k, hjk', hkn, rfl, hrun⟩ := hrel
          by_cases hkl : k < s.size
          · have e2 := bt_eq s k hkl
            by_cases hqk : bt s k = bt s i
            · have hb2 : ((bt s k : Int) == (bt s i : Int)) = true := beq_iff_eq.2 (by omega)
              have HQK : Aside (bt s k = bt s i) := hqk
              clear hqk
              go_wp2
              go_round
              case rel =>
                refine ⟨k + 1, by omega, by omega, by go_num, fun x h1 h2 => ?_⟩
                by_cases hxk : x = k
                · subst hxk; exact HQK.out
                · exact hrun.out x h1 (by omega)
              case measure => simp [intOf]; omega
            · have hb2 : ((bt s k : Int) == (bt s i : Int)) = false := beq_eq_false_iff_ne.2 (by omega)
              have hjk : j < k := by
                rcases Nat.lt_or_eq_of_le hjk' with h | h
                · exact h
                · subst h; exact absurd HQ.out hqk
              have hend : Aside (¬ (k < s.size ∧ bt s k = bt s i)) := fun h => hqk h.2
              clear hqk hjk'
              rcases parts esc bs with ⟨rfl, hp2⟩ | rfl | ⟨rfl, hp2⟩
              · have hpb : ((bs : Int) % 2 == 1) = true := beq_iff_eq.2 (by omega)
                have AR := Plain.at_run (B := bt s) (n := s.size) (q := bt s i) (esc := true) (j := j) (k := k) (bs := bs) (c := k - j - 1) hkn hend.out h92.out hrun.out (by rw [show Plain.at_ true j bs = j + 1 from by unfold Plain.at_; rw [if_pos ⟨rfl, hp2⟩]]; omega)
                have AR' : Aside ((k - j - 1) % 2 = 1 → Plain.Q (bt s) s.size (bt s i) true (Plain.at_ true j bs) = k) := AR.1
                have AR'' : Aside ((k - j - 1) % 2 = 0 → Plain.Q (bt s) s.size (bt s i) true (Plain.at_ true j bs) = Plain.Q (bt s) s.size (bt s i) true (Plain.at_ true k 0)) := AR.2
                clear AR hp2
                by_cases hc : (k - j - 1) % 2 = 1
                · have hcb : (((k : Int) - (j : Int) - 1) % 2 == 1) = true := beq_iff_eq.2 (by omega)
                  have HC : Aside ((k - j - 1) % 2 = 1) := hc
                  clear hc
                  go_wp2
                  go_ret
                  exact ⟨ret_int (by rw [hQ.out, AR'.out HC.out]), rfl⟩
                · have hcb : (((k : Int) - (j : Int) - 1) % 2 == 1) = false := beq_eq_false_iff_ne.2 (by omega)
                  have HC : Aside ((k - j - 1) % 2 = 0) := by show _ % 2 = 0; omega
                  clear hc
                  go_wp2
                  go_round
                  case rel => exact ⟨k, 0, hkn, Nat.zero_le _, rfl, rfl, hQ.out.trans (AR''.out HC.out)⟩
                  case measure => simp [intOf]; omega
              · have AR := Plain.at_run (B := bt s) (n := s.size) (q := bt s i) (esc := false) (j := j) (k := k) (bs := bs) (c := k - j) hkn hend.out h92.out hrun.out (by rw [show Plain.at_ false j bs = j from by unfold Plain.at_; rw [if_neg (fun h => by cases h.1)]]; omega)
                have AR' : Aside ((k - j) % 2 = 1 → Plain.Q (bt s) s.size (bt s i) false (Plain.at_ false j bs) = k) := AR.1
                have AR'' : Aside ((k - j) % 2 = 0 → Plain.Q (bt s) s.size (bt s i) false (Plain.at_ false j bs) = Plain.Q (bt s) s.size (bt s i) false (Plain.at_ false k 0)) := AR.2
                clear AR
                by_cases hc : (k - j) % 2 = 1
                · have hcb : (((k : Int) - (j : Int)) % 2 == 1) = true := beq_iff_eq.2 (by omega)
                  have HC : Aside ((k - j) % 2 = 1) := hc
                  clear hc
                  go_wp2
                  go_ret
                  exact ⟨ret_int (by rw [hQ.out, AR'.out HC.out]), rfl⟩
                · have hcb : (((k : Int) - (j : Int)) % 2 == 1) = false := beq_eq_false_iff_ne.2 (by omega)
                  have HC : Aside ((k - j) % 2 = 0) := by show _ % 2 = 0; omega
                  clear hc
                  go_wp2
                  go_round
                  case rel => exact ⟨k, 0, hkn, Nat.zero_le _, rfl, rfl, hQ.out.trans (AR''.out HC.out)⟩
                  case measure => simp [intOf]; omega
              · have hpb : ((bs : Int) % 2 == 1) = false := beq_eq_false_iff_ne.2 (by omega)
                have AR := Plain.at_run (B := bt s) (n := s.size) (q := bt s i) (esc := true) (j := j) (k := k) (bs := bs) (c := k - j) hkn hend.out h92.out hrun.out (by rw [show Plain.at_ true j bs = j from by unfold Plain.at_; rw [if_neg (fun h => by have := h.2; omega)]]; omega)
                have AR' : Aside ((k - j) % 2 = 1 → Plain.Q (bt s) s.size (bt s i) true (Plain.at_ true j bs) = k) := AR.1
                have AR'' : Aside ((k - j) % 2 = 0 → Plain.Q (bt s) s.size (bt s i) true (Plain.at_ true j bs) = Plain.Q (bt s) s.size (bt s i) true (Plain.at_ true k 0)) := AR.2
                clear AR hp2
                by_cases hc : (k - j) % 2 = 1
                · have hcb : (((k : Int) - (j : Int)) % 2 == 1) = true := beq_iff_eq.2 (by omega)
                  have HC : Aside ((k - j) % 2 = 1) := hc
                  clear hc
                  go_wp2
                  go_ret
                  exact ⟨ret_int (by rw [hQ.out, AR'.out HC.out]), rfl⟩
                · have hcb : (((k : Int) - (j : Int)) % 2 == 1) = false := beq_eq_false_iff_ne.2 (by omega)
                  have HC : Aside ((k - j) % 2 = 0) := by show _ % 2 = 0; omega
                  clear hc
                  go_wp2
                  go_round
                  case rel => exact ⟨k, 0, hkn, Nat.zero_le _, rfl, rfl, hQ.out.trans (AR''.out HC.out)⟩
                  case measure => simp [intOf]; omega
          · have hjk : j < k := by omega
            have hend : Aside (¬ (k < s.size ∧ bt s k = bt s i)) := fun h => hkl h.1
            clear hjk'
            rcases parts esc bs with ⟨rfl, hp2⟩ | rfl | ⟨rfl, hp2⟩
            · have hpb : ((bs : Int) % 2 == 1) = true := beq_iff_eq.2 (by omega)
              have AR := Plain.at_run (B := bt s) (n := s.size) (q := bt s i) (esc := true) (j := j) (k := k) (bs := bs) (c := k - j - 1) hkn hend.out h92.out hrun.out (by rw [show Plain.at_ true j bs = j + 1 from by unfold Plain.at_; rw [if_pos ⟨rfl, hp2⟩]]; omega)
              have AR' : Aside ((k - j - 1) % 2 = 1 → Plain.Q (bt s) s.size (bt s i) true (Plain.at_ true j bs) = k) := AR.1
              have AR'' : Aside ((k - j - 1) % 2 = 0 → Plain.Q (bt s) s.size (bt s i) true (Plain.at_ true j bs) = Plain.Q (bt s) s.size (bt s i) true (Plain.at_ true k 0)) := AR.2
              clear AR hp2
              by_cases hc : (k - j - 1) % 2 = 1
              · have hcb : (((k : Int) - (j : Int) - 1) % 2 == 1) = true := beq_iff_eq.2 (by omega)
                have HC : Aside ((k - j - 1) % 2 = 1) := hc
                clear hc
                go_wp2
                go_ret
                exact ⟨ret_int (by rw [hQ.out, AR'.out HC.out]), rfl⟩
              · have hcb : (((k : Int) - (j : Int) - 1) % 2 == 1) = false := beq_eq_false_iff_ne.2 (by omega)
                have HC : Aside ((k - j - 1) % 2 = 0) := by show _ % 2 = 0; omega
                clear hc
                go_wp2
                go_round
                case rel => exact ⟨k, 0, hkn, Nat.zero_le _, rfl, rfl, hQ.out.trans (AR''.out HC.out)⟩
                case measure => simp [intOf]; omega
            · have AR := Plain.at_run (B := bt s) (n := s.size) (q := bt s i) (esc := false) (j := j) (k := k) (bs := bs) (c := k - j) hkn hend.out h92.out hrun.out (by rw [show Plain.at_ false j bs = j from by unfold Plain.at_; rw [if_neg (fun h => by cases h.1)]]; omega)
              have AR' : Aside ((k - j) % 2 = 1 → Plain.Q (bt s) s.size (bt s i) false (Plain.at_ false j bs) = k) := AR.1
              have AR'' : Aside ((k - j) % 2 = 0 → Plain.Q (bt s) s.size (bt s i) false (Plain.at_ false j bs) = Plain.Q (bt s) s.size (bt s i) false (Plain.at_ false k 0)) := AR.2
              clear AR
              by_cases hc : (k - j) % 2 = 1
              · have hcb : (((k : Int) - (j : Int)) % 2 == 1) = true := beq_iff_eq.2 (by omega)
                have HC : Aside ((k - j) % 2 = 1) := hc
                clear hc
                go_wp2
                go_ret
                exact ⟨ret_int (by rw [hQ.out, AR'.out HC.out]), rfl⟩
              · have hcb : (((k : Int) - (j : Int)) % 2 == 1) = false := beq_eq_false_iff_ne.2 (by omega)
                have HC : Aside ((k - j) % 2 = 0) := by show _ % 2 = 0; omega
                clear hc
                go_wp2
                go_round
                case rel => exact ⟨k, 0, hkn, Nat.zero_le _, rfl, rfl, hQ.out.trans (AR''.out HC.out)⟩
                case measure => simp [intOf]; omega
            · have hpb : ((bs : Int) % 2 == 1) = false := beq_eq_false_iff_ne.2 (by omega)
              have AR := Plain.at_run (B := bt s) (n := s.size) (q := bt s i) (esc := true) (j := j) (k := k) (bs := bs) (c := k - j) hkn hend.out h92.out hrun.out (by rw [show Plain.at_ true j bs = j from by unfold Plain.at_; rw [if_neg (fun h => by have := h.2; omega)]]; omega)
              have AR' : Aside ((k - j) % 2 = 1 → Plain.Q (bt s) s.size (bt s i) true (Plain.at_ true j bs) = k) := AR.1
              have AR'' : Aside ((k - j) % 2 = 0 → Plain.Q (bt s) s.size (bt s i) true (Plain.at_ true j bs) = Plain.Q (bt s) s.size (bt s i) true (Plain.at_ true k 0)) := AR.2
              clear AR hp2
              by_cases hc : (k - j) % 2 = 1
              · have hcb : (((k : Int) - (j : Int)) % 2 == 1) = true := beq_iff_eq.2 (by omega)
                have HC : Aside ((k - j) % 2 = 1) := hc
                clear hc
                go_wp2
                go_ret
                exact ⟨ret_int (by rw [hQ.out, AR'.out HC.out]), rfl⟩
              · have hcb : (((k : Int) - (j : Int)) % 2 == 1) = false := beq_eq_false_iff_ne.2 (by omega)
                have HC : Aside ((k - j) % 2 = 0) := by show _ % 2 = 0; omega
                clear hc
                go_wp2
                go_round
                case rel => exact ⟨k, 0, hkn, Nat.zero_le _, rfl, rfl, hQ.out.trans (AR''.out HC.out)⟩
                case measure => simp [intOf]; omega
      · have hb : ((bt s j : Int) == (bt s i : Int)) = false := beq_eq_false_iff_ne.2 (by omega)
        by_cases hbk : bt s j = 92
        · have hb2 : ((bt s j : Int) == 92) = true := beq_iff_eq.2 (by omega)
          have HB : Aside (bt s j = 92) := hbk
          clear hbk
          go_wp2
          go_round
          case rel => exact ⟨j + 1, bs + 1, by omega, by omega, by go_num, by go_num, hQ.out.trans (Plain.at_bs hlt HB.out)⟩
          case measure => simp [intOf]; omega
        · have hb2 : ((bt s j : Int) == 92) = false := beq_eq_false_iff_ne.2 (by omega)
          go_wp2
          go_round
          case rel => exact ⟨j + 1, 0, by omega, by omega, by go_num, rfl, hQ.out.trans (Plain.at_other hlt hbk hq)⟩
          case measure => simp [intOf]; omega
    · go_wp2
      go_ret
      exact ⟨ret_int (by rw [hQ.out, Plain.at_end (by omega)]), rfl⟩
end Go.Proofs.Qxb6630790a
