import Derived.Test.Qxb6630790aEnd
import Derived.RegionTactic
import Derived.Lib.Strings
namespace Go.Proofs.Qxb6630790a
open Go.RowKit
set_option linter.unusedVariables false

theorem bt_data (s : ByteArray) (j : Nat) : bt s j = ((s.data[j]?).getD 0).toNat := by
  unfold bt
  by_cases h : j < s.size
  · rw [dif_pos h, Array.getElem?_eq_getElem (show j < s.data.size from h)]; rfl
  · rw [dif_neg h, Array.getElem?_eq_none (show s.data.size ≤ j from Nat.le_of_not_lt h)]; rfl
theorem bt_extract (s : ByteArray) (i r j : Nat) (hr : r ≤ s.size) (hj : i + j < r) : bt (s.extract i r) j = bt s (i + j) := by
  rw [bt_data, bt_data]
  have e : (s.extract i r).data = s.data.extract i r := by simp
  rw [e, Array.getElem?_extract]
  have : s.data.size = s.size := rfl
  rw [if_pos (by omega)]
theorem bt_left (a b : ByteArray) (j : Nat) (hj : j < a.size) : bt (a ++ b) j = bt a j := by
  rw [bt_data, bt_data]
  have e : (a ++ b).data = a.data ++ b.data := by simp
  rw [e, Array.getElem?_append, if_pos (show j < a.data.size from hj)]
theorem bt_right (a b : ByteArray) (j : Nat) : bt (a ++ b) (a.size + j) = bt b j := by
  rw [bt_data, bt_data]
  have e : (a ++ b).data = a.data ++ b.data := by simp
  have e2 : a.data.size = a.size := rfl
  rw [e, Array.getElem?_append, if_neg (by omega), e2, Nat.add_sub_cancel_left]

theorem bytes8_yes (s p t : ByteArray) (i : Int) (esc : Bool) (w : World) (h : s.size + p.size + t.size ≤ 1048576) :
    Calls Try.prog 8 #[.string s, .int .i64 i, .bool esc, .string p, .string t] w fun e w' => e = .returned (.bool true) ∧ w = w' := by
  go_enter Try.func8, Try.ntmps8
  go_wp2
  go_ret
  exact ⟨rfl, rfl⟩
set_option maxHeartbeats 1000000 in
theorem bytes8_no (s p t : ByteArray) (i : Int) (esc : Bool) (w : World) (hs : s.size ≤ maxLen) (hp : p.size ≤ maxLen) (ht : t.size ≤ maxLen) (h : ¬ s.size + p.size + t.size ≤ 1048576) :
    Calls Try.prog 8 #[.string s, .int .i64 i, .bool esc, .string p, .string t] w fun e w' => e = .returned (.bool false) ∧ w = w' := by
  unfold maxLen at hs hp ht
  go_enter Try.func8, Try.ntmps8
  go_wp2
  all_goals
    go_ret
    exact ⟨rfl, rfl⟩

theorem ends (s : ByteArray) (i : Nat) (esc : Bool) (hi : i < s.size) : i < Plain.Q (bt s) s.size (bt s i) esc (i + 1) ∧ Plain.Q (bt s) s.size (bt s i) esc (i + 1) ≤ s.size :=
  ⟨Plain.Q_ge (show i + 1 ≤ s.size by omega), Plain.Q_le _⟩
theorem ends_quote (s : ByteArray) (i : Nat) (esc : Bool) (h : Plain.Q (bt s) s.size (bt s i) esc (i + 1) < s.size) :
    bt s (Plain.Q (bt s) s.size (bt s i) esc (i + 1) - 1) = bt s i ∧ bt s (Plain.Q (bt s) s.size (bt s i) esc (i + 1)) ≠ bt s i :=
  (Plain.Q_quote s.size (i + 1) (by omega) h).2
/-- The literal alone. -/
theorem ends_alone (s : ByteArray) (i r : Nat) (esc : Bool) (hi : i < s.size) (hr : Plain.Q (bt s) s.size (bt s i) esc (i + 1) = r) :
    Plain.Q (bt (s.extract i r)) (s.extract i r).size (bt (s.extract i r) 0) esc (0 + 1) = r - i := by
  obtain ⟨h1, h2⟩ := ends s i esc hi
  rw [hr] at h1 h2
  have hsz : (s.extract i r).size = r - i := by rw [ByteArray.size_extract]; omega
  have h0 : bt (s.extract i r) 0 = bt s i := by rw [bt_extract s i r 0 h2 (by omega), Nat.add_zero]
  rw [hsz, h0]
  have e1 : Plain.Q (bt s) r (bt s i) esc (i + 1) = r := by
    have := Plain.Q_local (B := bt s) (n := s.size) (q := bt s i) (esc := esc) (C := bt s) (m := r) s.size (i + 1) (by omega) (fun j _ _ => rfl) (Or.inl hr.symm)
    rw [this, hr]
  have e2 : Plain.Q (fun j => bt s (i + j)) (r - i) (bt s i) esc 1 = r - i := by
    have := Plain.Q_shift (B := bt s) (q := bt s i) (esc := esc) (x := i) (m := r - i) (r - i) 1 (by omega)
    rw [show i + (r - i) = r from by omega, e1] at this
    omega
  have e3 := Plain.Q_local (B := fun j => bt s (i + j)) (n := r - i) (q := bt s i) (esc := esc) (C := bt (s.extract i r)) (m := r - i) (r - i) 1 (by omega) (fun j _ hj => by rw [e2] at hj; exact bt_extract s i r j h2 (by omega)) (Or.inl e2.symm)
  rw [Nat.zero_add, e3, e2]
/-- p ahead of the script, t behind it. -/
theorem ends_between (s p t : ByteArray) (i r : Nat) (esc : Bool) (hi : i < s.size) (hr : Plain.Q (bt s) s.size (bt s i) esc (i + 1) = r) (hl : r < s.size) :
    Plain.Q (bt (p ++ s ++ t)) (p ++ s ++ t).size (bt (p ++ s ++ t) (p.size + i)) esc (p.size + i + 1) = p.size + r := by
  obtain ⟨h3, h4⟩ := ends_quote s i esc (by rw [hr]; exact hl)
  rw [hr] at h4
  have hb : ∀ j, j < s.size → bt (p ++ s ++ t) (p.size + j) = bt s j := fun j hj => by
    rw [bt_left (p ++ s) t _ (by rw [ByteArray.size_append]; omega), bt_right]
  have hsz : (p ++ s ++ t).size = p.size + (s.size + t.size) := by rw [ByteArray.size_append, ByteArray.size_append]; omega
  rw [hsz, hb i hi, Nat.add_assoc]
  have e1 := Plain.Q_local (B := bt s) (n := s.size) (q := bt s i) (esc := esc) (C := fun j => bt (p ++ s ++ t) (p.size + j)) (m := s.size + t.size) s.size (i + 1) (by omega)
    (fun j _ hj => by rw [hr] at hj; exact hb j (by omega)) (Or.inr ⟨by rw [hr]; exact hl, by rw [hr]; omega, by rw [hr]; show bt (p ++ s ++ t) (p.size + r) ≠ _; rw [hb r hl]; exact h4⟩)
  rw [← Plain.Q_shift (B := bt (p ++ s ++ t)) (q := bt s i) (esc := esc) (x := p.size) (m := s.size + t.size) (s.size + t.size) (i + 1) (by omega), e1, hr]
  omega
/-- p ahead of the script. -/
theorem ends_behind (s p : ByteArray) (i r : Nat) (esc : Bool) (hi : i < s.size) (hr : Plain.Q (bt s) s.size (bt s i) esc (i + 1) = r) (hl : r = s.size) :
    Plain.Q (bt (p ++ s)) (p ++ s).size (bt (p ++ s) (p.size + i)) esc (p.size + i + 1) = p.size + r := by
  have hb : ∀ j, bt (p ++ s) (p.size + j) = bt s j := fun j => bt_right p s j
  have hsz : (p ++ s).size = p.size + s.size := by rw [ByteArray.size_append]
  rw [hsz, hb i, Nat.add_assoc]
  have e1 := Plain.Q_local (B := bt s) (n := s.size) (q := bt s i) (esc := esc) (C := fun j => bt (p ++ s) (p.size + j)) (m := s.size) s.size (i + 1) (by omega)
    (fun j _ hj => hb j) (Or.inl (by rw [hr, hl]))
  rw [← Plain.Q_shift (B := bt (p ++ s)) (q := bt s i) (esc := esc) (x := p.size) (m := s.size) s.size (i + 1) (by omega), e1, hr]
  omega

set_option maxHeartbeats 2000000 in
theorem local4 (s p t : ByteArray) (i : Nat) (esc : Bool) (w : World) (h : s.size + p.size + t.size ≤ 1048576) (hi : i < s.size) :
    Calls Try.prog 4 #[.string s, .int .i64 i, .bool esc, .string p, .string t] w fun e w' => e = .returned (.bool true) ∧ ∃ d, w' = w.drewN d := by
  obtain ⟨r, hr⟩ : ∃ r, Plain.Q (bt s) s.size (bt s i) esc (i + 1) = r := ⟨_, rfl⟩
  obtain ⟨h1, h2⟩ := ends s i esc hi
  rw [hr] at h1 h2
  have HR : Aside (Plain.Q (bt s) s.size (bt s i) esc (i + 1) = r) := hr
  have A3 : Aside (Plain.Q (bt (s.extract i r)) (s.extract i r).size (bt (s.extract i r) 0) esc (0 + 1) = r - i) := ends_alone s i r esc hi hr
  have hiz : ¬ (i : Int) < 0 := by omega
  have hin : (i : Int) < (s.size : Int) := by omega
  have hri : ¬ (r : Int) ≤ (i : Int) := by omega
  have hrn : ¬ (s.size : Int) < (r : Int) := by omega
  by_cases hl : r < s.size
  · obtain ⟨h3, h4⟩ := ends_quote s i esc (by rw [hr]; exact hl)
    rw [hr] at h3 h4
    have A4 : Aside (Plain.Q (bt (p ++ s ++ t)) (p ++ s ++ t).size (bt (p ++ s ++ t) (p.size + i)) esc (p.size + i + 1) = p.size + r) := ends_between s p t i r esc hi hr hl
    clear hr
    obtain ⟨rr, rfl⟩ : ∃ rr, r = rr + 1 := ⟨r - 1, by omega⟩
    rw [Nat.add_sub_cancel] at h3
    have e0 := bt_eq s i hi
    have e1 : (s[rr]'(by omega)).toNat = bt s i := (bt_eq s rr (by omega)).trans h3
    have e2 := bt_eq s (rr + 1) hl
    have hb : ((bt s (rr + 1) : Int) == (bt s i : Int)) = false := beq_eq_false_iff_ne.2 (by omega)
    have hli : (rr : Int) + 1 < (s.size : Int) := by omega
    have hri2 : (rr : Int) < (s.size : Int) := by omega
    clear h3 h4
    go_enter Try.func4, Try.ntmps4
    go_wp2_with fail
    refine (bytes8_yes _ _ _ _ _ _ h).mono ?_
    rintro e w' ⟨rfl, rfl⟩
    go_wp2_with fail
    refine (end6 s i _ esc (rr + 1) _ rfl (by omega) hi HR.out).mono ?_
    rintro e w' ⟨rfl, rfl⟩
    obtain ⟨m, hm⟩ : ∃ m, rr + 1 - i = m := ⟨_, rfl⟩
    obtain ⟨M, hM⟩ : ∃ M, p.size + (rr + 1) = M := ⟨_, rfl⟩
    rw [hm] at A3
    rw [hM] at A4
    have hmb : ((m : Int) != (rr : Int) + 1 - (i : Int)) = false := by rw [bne_eq_false_iff_eq]; omega
    have hMb : ((M : Int) == (p.size : Int) + ((rr : Int) + 1)) = true := beq_iff_eq.2 (by omega)
    have hx0 : (s.extract i (rr + 1)).size ≤ 4194304 := by rw [ByteArray.size_extract]; omega
    have hx1 : 0 < (s.extract i (rr + 1)).size := by rw [ByteArray.size_extract]; omega
    have hy0 : (p ++ s ++ t).size ≤ 4194304 := by rw [ByteArray.size_append, ByteArray.size_append]; omega
    have hy1 : p.size + i < (p ++ s ++ t).size := by rw [ByteArray.size_append, ByteArray.size_append]; omega
    have HX : Aside ((s.extract i (rr + 1)).size ≤ 4194304 ∧ 0 < (s.extract i (rr + 1)).size ∧ (p ++ s ++ t).size ≤ 4194304 ∧ p.size + i < (p ++ s ++ t).size) := ⟨hx0, hx1, hy0, hy1⟩
    clear hm hM hx0 hx1 hy0 hy1
    go_wp2_with fail
    go_quiet (fail)
    go_wp2_with fail
    refine (end6 (s.extract i (rr + 1)) 0 _ esc m _ (by rfl) HX.out.1 HX.out.2.1 A3.out).mono ?_
    rintro e w' ⟨rfl, rfl⟩
    go_wp2_with fail
    refine (end6 (p ++ s ++ t) (p.size + i) _ esc M _ (by omega) HX.out.2.2.1 HX.out.2.2.2 A4.out).mono ?_
    rintro e w' ⟨rfl, rfl⟩
    go_wp2
    go_ret
    exact ⟨rfl, _, rfl⟩
  · have hre : r = s.size := by omega
    have A4 : Aside (Plain.Q (bt (p ++ s)) (p ++ s).size (bt (p ++ s) (p.size + i)) esc (p.size + i + 1) = p.size + r) := ends_behind s p i r esc hi hr hre
    clear hr hre
    have e0 := bt_eq s i hi
    have hli : ¬ (r : Int) < (s.size : Int) := by omega
    obtain ⟨m, hm⟩ : ∃ m, r - i = m := ⟨_, rfl⟩
    obtain ⟨M, hM⟩ : ∃ M, p.size + r = M := ⟨_, rfl⟩
    rw [hm] at A3
    rw [hM] at A4
    have hmb : ((m : Int) != (r : Int) - (i : Int)) = false := by rw [bne_eq_false_iff_eq]; omega
    have hMb : ((M : Int) == (p.size : Int) + (r : Int)) = true := beq_iff_eq.2 (by omega)
    have hx0 : (s.extract i r).size ≤ 4194304 := by rw [ByteArray.size_extract]; omega
    have hx1 : 0 < (s.extract i r).size := by rw [ByteArray.size_extract]; omega
    have hy0 : (p ++ s).size ≤ 4194304 := by rw [ByteArray.size_append]; omega
    have hy1 : p.size + i < (p ++ s).size := by rw [ByteArray.size_append]; omega
    have HX : Aside ((s.extract i r).size ≤ 4194304 ∧ 0 < (s.extract i r).size ∧ (p ++ s).size ≤ 4194304 ∧ p.size + i < (p ++ s).size) := ⟨hx0, hx1, hy0, hy1⟩
    clear hm hM hx0 hx1 hy0 hy1
    go_enter Try.func4, Try.ntmps4
    go_wp2_with fail
    refine (bytes8_yes _ _ _ _ _ _ h).mono ?_
    rintro e w' ⟨rfl, rfl⟩
    go_wp2_with fail
    refine (end6 s i _ esc r _ rfl (by omega) hi HR.out).mono ?_
    rintro e w' ⟨rfl, rfl⟩
    go_wp2_with fail
    refine (end6 (s.extract i r) 0 _ esc m _ (by rfl) HX.out.1 HX.out.2.1 A3.out).mono ?_
    rintro e w' ⟨rfl, rfl⟩
    go_wp2_with fail
    refine (end6 (p ++ s) (p.size + i) _ esc M _ (by omega) HX.out.2.2.1 HX.out.2.2.2 A4.out).mono ?_
    rintro e w' ⟨rfl, rfl⟩
    go_wp2
    go_ret
    exact ⟨rfl, 0, rfl⟩
end Go.Proofs.Qxb6630790a
