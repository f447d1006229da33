import Derived.Test.Qxb6630826aOpen
import Derived.Test.Qxb6630826aOrder
namespace Go.Proofs.Qxb6630826a
open Go.RowKit
set_option linter.unusedVariables false

set_option maxHeartbeats 1000000 in
/-- The short ways of law 4: a list too long, an empty one, a cut outside it, two members of one id. -/
theorem short4 (a0 : Option Addr) (b off n c : Nat) (kk : Int) (M : Nat → ByteArray × ByteArray × Int) (w : World) (ha : 0 < n → a0 = some ⟨b, off, none⟩) (hn : n ≤ maxLen) (hc : Mems w b off n M) (h : ¬ (n ≤ 4096 ∧ 0 ≤ kk ∧ kk < n ∧ Dist M n)) :
    Calls Try.prog 4 #[.slice a0 n c, .int .i64 kk] w fun e w' => e = .returned (.bool true) ∧ Below w.heap.size w w' := by
  have HA : Aside (0 < n → a0 = some ⟨b, off, none⟩) := ha
  have HC : Aside (Mems w b off n M) := hc
  have H : Aside (¬ (n ≤ 4096 ∧ 0 ≤ kk ∧ kk < n ∧ Dist M n)) := h
  clear ha h hc
  go_enter Try.func4, Try.ntmps4
  go_wp2_with fail
  refine (bytes10 _ b off _ _ _ M _ HA.out hn HC.out).mono ?_
  rintro e w' ⟨⟨r, rfl⟩, rfl⟩
  cases r
  · go_wp2
    go_ret
    exact ⟨rfl, Below.refl _ _⟩
  by_cases hl : n ≤ 4096
  · go_wp2_with fail
    refine (size6 _ b off _ _ M _ HA.out hl HC.out).mono ?_
    rintro e w' ⟨⟨r, rfl⟩, rfl⟩
    cases r
    · go_wp2
      go_ret
      exact ⟨rfl, Below.refl _ _⟩
    by_cases h0 : n = 0
    · subst h0
      go_wp2
      go_ret
      exact ⟨rfl, Below.refl _ _⟩
    · have hn0 : ((n : Int) == 0) = false := beq_eq_false_iff_ne.2 (by omega)
      by_cases hk : kk < 0
      · have hkb : decide (kk < 0) = true := decide_eq_true hk
        go_wp2
        go_ret
        exact ⟨rfl, Below.refl _ _⟩
      have hkb : decide (kk < 0) = false := decide_eq_false hk
      by_cases hk2 : (n : Int) ≤ kk
      · have hkc : decide ((n : Int) ≤ kk) = true := decide_eq_true hk2
        go_wp2
        go_ret
        exact ⟨rfl, Below.refl _ _⟩
      have hkc : decide ((n : Int) ≤ kk) = false := decide_eq_false hk2
      go_wp2_with fail
      refine (distinct7 false _ b off _ _ M _ HA.out hl HC.out ⟨fun e => (by cases e), fun e => absurd ⟨hl, by omega, by omega, e⟩ H.out⟩).mono ?_
      rintro e w' ⟨rfl, d, rfl⟩
      go_wp2
      go_ret
      exact ⟨rfl, Go.below_drewN (Below.refl _ _) d⟩
  · go_wp2_with fail
    refine (size6_long _ _ _ _ hn hl).mono ?_
    rintro e w' ⟨rfl, rfl⟩
    go_wp2
    go_ret
    exact ⟨rfl, Below.refl _ _⟩

theorem law4 (a0 : Option Addr) (b off n c : Nat) (kk : Int) (M : Nat → ByteArray × ByteArray × Int) (w : World) (ha : 0 < n → a0 = some ⟨b, off, none⟩) (hb : 0 < n → b < w.heap.size) (hn : n ≤ maxLen) (hc : Mems w b off n M) :
    Calls Try.prog 4 #[.slice a0 n c, .int .i64 kk] w fun e w' => e = .returned (.bool true) ∧ Below w.heap.size w w' := by
  by_cases h : n ≤ 4096 ∧ 0 ≤ kk ∧ kk < n ∧ Dist M n
  · obtain ⟨h1, h2, h3, h4⟩ := h
    obtain ⟨k, rfl⟩ := Int.eq_ofNat_of_zero_le h2
    have e := ha (by omega)
    subst e
    exact order4 b off n c k M w (hb (by omega)) (by omega) h1 hc h4
  · exact short4 a0 b off n c kk M w ha hn hc h
end Go.Proofs.Qxb6630826a
