/-
  FnAppsPrefixAgrees: the proof. The frame is the guide's own (as its shell for seat laws has it), at two slices of structs and an int.
-/
import Derived.Test.Qxb6630759aOpen
import Derived.Test.Qxb6630759aPrefix
import Derived.WalkKit
import Derived.ProofKit
import Derived.OpenShut
import Derived.ShutString
import Derived.ChangeOld
import Derived.Below
namespace Go.Proofs.Qxb6630759a.fnAppsPrefix
open Go.ChangeShapes Go.WideShapes Go.ChangeAt Go.RowKit
set_option linter.unusedVariables false

theorem own : ownKnob Try.prog.godebug = none := by kernel_rfl
theorem laidOut : laidOutB Try.prog = true := by kernel_rfl

set_option maxHeartbeats 1000000 in
/-- One list is long: the law answers true at once. -/
theorem walk_long (a0 a1 : Option Addr) (b off n c0 m c1 : Nat) (p q : Nat → ByteArray) (w : World) (ha : 0 < n → a0 = some ⟨b, off, none⟩) (hn : n ≤ maxLen) (hm : m ≤ maxLen) (hc : Pairs w b off n p q) (h : ¬ (n ≤ 4096 ∧ m ≤ 4096)) (kk : Int) :
    Calls Try.prog 4 #[.slice a0 n c0, .slice a1 m c1, .int .i64 kk] w fun e w' => e = .returned (.bool true) ∧ Below w.heap.size w w' := by
  have HA : Aside (0 < n → a0 = some ⟨b, off, none⟩) := ha
  have H : Aside (¬ (n ≤ 4096 ∧ m ≤ 4096)) := h
  clear ha h
  go_enter Try.func4, Try.ntmps4
  go_wp2_with fail
  refine (bytes9 _ _ b off _ _ _ _ _ p q _ HA.out hn hm hc).mono ?_
  rintro e w' ⟨⟨r, rfl⟩, rfl⟩
  cases r
  · go_wp2
    go_ret
    exact ⟨rfl, Below.refl _ _⟩
  go_wp2_with fail
  refine (over6_long _ _ _ _ _ _ _ hn hm H.out).mono ?_
  rintro e w' ⟨rfl, rfl⟩
  go_wp2
  go_ret
  exact ⟨rfl, Below.refl _ _⟩

set_option maxHeartbeats 1000000 in
/-- The cut lies outside: the law answers true. -/
theorem walk_off (a0 a1 : Option Addr) (b off n c0 m c1 : Nat) (p q : Nat → ByteArray) (w : World) (ha : 0 < n → a0 = some ⟨b, off, none⟩) (hn : n ≤ 4096) (hm : m ≤ 4096) (hc : Pairs w b off n p q) (kk : Int) (h : kk < 0 ∨ (n : Int) < kk) :
    Calls Try.prog 4 #[.slice a0 n c0, .slice a1 m c1, .int .i64 kk] w fun e w' => e = .returned (.bool true) ∧ Below w.heap.size w w' := by
  have HA : Aside (0 < n → a0 = some ⟨b, off, none⟩) := ha
  have H : Aside (kk < 0 ∨ (n : Int) < kk) := h
  clear ha h
  go_enter Try.func4, Try.ntmps4
  go_wp2_with fail
  refine (bytes9 _ _ b off _ _ _ _ _ p q _ HA.out (by unfold maxLen; omega) (by unfold maxLen; omega) hc).mono ?_
  rintro e w' ⟨⟨r, rfl⟩, rfl⟩
  cases r
  · go_wp2
    go_ret
    exact ⟨rfl, Below.refl _ _⟩
  go_wp2_with fail
  refine (over6 _ _ b off _ _ _ _ p q _ HA.out hn hm hc).mono ?_
  rintro e w' ⟨⟨r, rfl⟩, d, rfl⟩
  cases r
  · by_cases hk : kk < 0
    · go_wp2
      go_ret
      exact ⟨rfl, Go.below_drewN (Below.refl _ _) d⟩
    · have hk2 : (n : Int) < kk := by have := H.out; omega
      go_wp2
      go_ret
      exact ⟨rfl, Go.below_drewN (Below.refl _ _) d⟩
  · go_wp2
    go_ret
    exact ⟨rfl, Go.below_drewN (Below.refl _ _) d⟩

set_option maxRecDepth 100000 in
theorem lifted (os : Os) (started : os.Started) (H : Type) (enc : TypeId × Value → H) :
    ReturnsInHanded {} Try.checked os 4 .any (Rows.fnAppsPrefixAgreesSpec.pre6 enc Try.prog Try.f4 Rows.fnAppsPrefixAgreesRow.domain false) (Rows.fnAppsPrefixAgreesSpec.post enc Try.prog Try.f4 false true false false) := by
  refine returnsInHanded_of_change (C := Try.checked) own started (by kernel_rfl) Try.func4
    (ChangeSpec.witness6 (enc := enc) (C := Try.checked) false ⟨#[], #[.slice none 0 0, .slice none 0 0, .int .i64 0], []⟩ 8 (by kernel_rfl) (by kernel_rfl) (by kernel_rfl) (by kernel_rfl)) ?_
  intro W base args ds gs before hval0 hW hcnd _
  have hval : ∀ (j : Nat) t v, Try.f4.params[j]? = some t → args[j]? = some v → Value.okWide Try.prog W .any base t v := hval0
  have hW' := hW
  obtain ⟨p, q, hA0, hV, rfl, hfz, hnd⟩ := hW
  have hA : DataW.TrodAll enc Try.prog W 0 (fun _ => true) true Try.f4.params.toList args.toList ds p := hA0
  rw [Try.params4] at hA hval
  obtain ⟨v0, vs0, d0, ds0, p0, q0, hargs, rfl, rfl, h0, r0⟩ := trodAll_cons hA
  obtain ⟨v1, vs1, d1, ds1, p1, q1, rfl, rfl, rfl, h1, r1⟩ := trodAll_cons r0
  obtain ⟨v2, vs2, d2, ds2, p2, q2, rfl, rfl, rfl, h2, r2⟩ := trodAll_cons r1
  obtain ⟨rfl, rfl, rfl⟩ := trodAll_nil r2
  obtain rfl : args = #[v0, v1, v2] := by cases args; simp_all
  obtain ⟨rfl, rfl⟩ := trodVars_none hV
  obtain ⟨a0, len0, cap0, rfl⟩ := okWide_slice Try.underlying22 (hval 0 22 v0 rfl rfl)
  obtain ⟨a1, len1, cap1, rfl⟩ := okWide_slice Try.underlying23 (hval 1 23 v1 rfl rfl)
  obtain ⟨a2, rfl, rfl, rfl, w2⟩ := open_int Try.underlying3 (hval 2 3 v2 rfl rfl) h2
  have k0 := h0
  have k1 := h1
  have lt0 : ∀ x ∈ p0, x.block < W.heap.size := by obtain ⟨m, hm⟩ := k0; exact DataW.trod_lt m _ _ _ hm
  have lt1 : ∀ x ∈ p1, x.block < W.heap.size := by obtain ⟨m, hm⟩ := k1; exact DataW.trod_lt m _ _ _ hm
  obtain ⟨b, off, fp, fq, e0, ea, eb, ec, el, es⟩ := open_fns h0
  obtain ⟨b1, off1, zi, xf, yf, e01, ea1, eb1, ec1, el1⟩ := open_invs h1
  clear hA0 hval0
  have walk : Calls Try.prog 4 #[.slice a0 len0 cap0, .slice a1 len1 cap1, .int .i64 a2] W fun e w' => e = .returned (.bool true) ∧ Below W.heap.size W w' := by
    by_cases hl : len0 ≤ 4096 ∧ len1 ≤ 4096
    · by_cases hk : a2 < 0 ∨ (len0 : Int) < a2
      · exact walk_off a0 a1 b off len0 cap0 len1 cap1 fp fq W ea hl.1 hl.2 ec a2 hk
      · obtain ⟨kk, rfl⟩ := Int.eq_ofNat_of_zero_le (show 0 ≤ a2 by omega)
        exact prefix4 a0 a1 b off len0 cap0 len1 cap1 kk (by omega) fp fq W e0 ea hl.1 hl.2 eb ec b1 off1 zi xf yf e01 ea1 eb1 ec1 es
    · exact walk_long a0 a1 b off len0 cap0 len1 cap1 fp fq W ea el el1 ec hl a2
  refine walk.mono fun e W' ⟨he, bel⟩ => ?_
  subst he
  exact ⟨_, rfl, _, _, _, [], _, [], hW', trodAll_mk1 (shut_bool Try.underlying4 _), (trodAll_cons_mk (Below.trod laidOut (by kernel_rfl) (of_decide_eq_true (by kernel_rfl)) k0 bel lt0) (trodAll_cons_mk (Below.trod laidOut (by kernel_rfl) (of_decide_eq_true (by kernel_rfl)) k1 bel lt1) (trodAll_cons_mk (shut_int Try.underlying3 w2) trodAll_mk0))), rfl, bel.frame _, fun h => by cases h⟩

theorem over : Rows.fnAppsPrefixAgreesRow.holds Try.pinned (OpenSpec.ofChange Rows.fnAppsPrefixAgreesSpec) :=
  OpenClaim.holds_of_wide 4 Try.f4 rfl rfl rfl rfl rfl rfl rfl ⟨rfl, rfl, rfl, rfl, rfl⟩ rfl rfl rfl rfl rfl (by kernel_rfl) Try.func4 (by kernel_rfl)
    (of_decide_eq_true (by kernel_rfl)) (by unfold Func.isWrapper; first | (rw [if_pos (by decide +kernel)]; kernel_rfl) | (rw [if_neg (by decide +kernel)]; exact ⟨rfl, rfl⟩))
    (fun os started H enc _ => lifted os started H enc)

/-- THE STATEMENT -/
theorem proved : Rows.FnAppsPrefixAgreesSaid := over
#print axioms proved
end Go.Proofs.Qxb6630759a.fnAppsPrefix
