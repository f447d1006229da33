/-
  FnSeesSplitActive: the proof, after the shell that was given with the seat (its frame as written by program), its one open place filled.
-/
import Derived.Test.Qxb6630730aRows
import Derived.WalkKit
import Derived.ProofKit
import Derived.OpenShut
import Derived.ShutString
import Derived.ChangeOld
import Derived.Below
import Derived.Test.Qxb6630730aSplit
namespace Go.Proofs.Qxb6630730a.fnSeesSplitActive
open Go.ChangeShapes Go.WideShapes Go.ChangeAt Go.RowKit
open Go.ChangeMaps (open_string shut_string)
set_option linter.unusedVariables false

theorem own : ownKnob Try.prog.godebug = none := by kernel_rfl
theorem laidOut : laidOutB Try.prog = true := by kernel_rfl

/-- WHAT THE WALK IS TOLD OF A SLICE OF INTEGERS THAT CAME IN: it is nil; or it leads to a row of 'cap' cells, the numbers 'zs' (the first 'len' are its elements, the rest its spare room), each fitting its kind. -/
def IsRow (k : IntKind) (w : World) (a : Option Addr) (len cap : Nat) (zs : List Int) : Prop :=
  (a = none ∧ len = 0 ∧ cap = 0 ∧ zs = []) ∨
  ∃ x, a = some x ∧ len ≤ cap ∧ cap ≤ maxLen ∧ zs.length = cap ∧ (∀ i, i < zs.length → w.cell? (x.add i) = some (.int k (zs.getD i 0))) ∧ ∀ n ∈ zs, (Lit.int k n).wf = true

/-! ### STEP 1: THE WALK: the Go text returns true, AND WRITES NOTHING THAT WAS THERE: 'Below w.heap.size w w'' (Derived/Below.lean: '.refl', '.alloc', '.drew', '.setCell' at a new block, '.trans'). Open each 'IsRow' by 'rcases' AHEAD of 'go_enter'; part every test ahead of the walk. -/
/-- More than 65536 ids: the law answers true at once. -/
theorem walk_long (a0 : Int) (a : Option Addr) (n c : Nat) (a2 : Int) (a3 : Bool) (a4 a5 : Int) (w : World) (hn : n ≤ maxLen) (h : 65536 < n) :
    Calls Try.prog 3 #[.int .u64 a0, .slice a n c, .int .u64 a2, .bool a3, .int .i64 a4, .int .u64 a5] w fun e w' => e = .returned (.bool true) ∧ Below w.heap.size w w' := by
  have hm := hn
  unfold maxLen at hm
  by_cases hb : n ≤ 1048576
  · go_enter Try.func3, Try.ntmps3
    go_wp2_with fail
    refine (bytes5_any _ _ _ _ _ _ _ _ _ hn).mono ?_
    rintro e w ⟨rfl, rfl⟩
    rw [decide_eq_true hb]
    go_wp2
    go_ret
    exact ⟨rfl, Below.refl _ _⟩
  · go_enter Try.func3, Try.ntmps3
    go_wp2_with fail
    refine (bytes5_any _ _ _ _ _ _ _ _ _ hn).mono ?_
    rintro e w ⟨rfl, rfl⟩
    rw [decide_eq_false hb]
    go_wp2
    go_ret
    exact ⟨rfl, Below.refl _ _⟩

/-- the cut lies outside: the law answers true. -/
theorem walk_off (a0 : Int) (a : Option Addr) (n c : Nat) (a2 : Int) (a3 : Bool) (a4 a5 : Int) (w : World) (hn : n ≤ 65536) (h : a4 < 0 ∨ (n : Int) < a4) :
    Calls Try.prog 3 #[.int .u64 a0, .slice a n c, .int .u64 a2, .bool a3, .int .i64 a4, .int .u64 a5] w fun e w' => e = .returned (.bool true) ∧ Below w.heap.size w w' := by
  by_cases h0 : a4 < 0
  · clear h
    go_enter Try.func3, Try.ntmps3
    go_wp2_with fail
    refine (bytes5_any _ _ _ _ _ _ _ _ _ (by unfold maxLen; omega)).mono ?_
    rintro e w ⟨rfl, rfl⟩
    rw [decide_eq_true (show n ≤ 1048576 by omega)]
    go_wp2
    go_ret
    exact ⟨rfl, Below.refl _ _⟩
  · have h1 : (n : Int) < a4 := by omega
    clear h
    go_enter Try.func3, Try.ntmps3
    go_wp2_with fail
    refine (bytes5_any _ _ _ _ _ _ _ _ _ (by unfold maxLen; omega)).mono ?_
    rintro e w ⟨rfl, rfl⟩
    rw [decide_eq_true (show n ≤ 1048576 by omega)]
    go_wp2
    go_ret
    exact ⟨rfl, Below.refl _ _⟩

/-- The ids are not in order, or not below next: the law answers true. -/
theorem walk_unsorted (a0 : Int) (a : Option Addr) (b off n c : Nat) (zs : List Int) (a2 : Int) (a3 : Bool) (k : Nat) (a5 : Int) (w : World) (ha : 0 < n → a = some ⟨b, off, none⟩) (hn : n ≤ 65536) (hk : k ≤ n) (hc : RowAt w b off n zs) (h : ¬ Plain.okTo zs a2 n) :
    Calls Try.prog 3 #[.int .u64 a0, .slice a n c, .int .u64 a2, .bool a3, .int .i64 k, .int .u64 a5] w fun e w' => e = .returned (.bool true) ∧ Below w.heap.size w w' := by
  have H : Aside (¬ Plain.okTo zs a2 n) := h
  have HA : Aside (0 < n → a = some ⟨b, off, none⟩) := ha
  clear h ha
  have k0 : ¬ (k : Int) < 0 := by omega
  have k1 : (k : Int) ≤ (n : Int) := by omega
  go_enter Try.func3, Try.ntmps3
  go_wp2_with fail
  refine (bytes5_any _ _ _ _ _ _ _ _ _ (by unfold maxLen; omega)).mono ?_
  rintro e w ⟨rfl, rfl⟩
  rw [decide_eq_true (show n ≤ 1048576 by omega)]
  go_wp2_with fail
  refine (sorted6 false _ b off _ _ zs _ _ HA.out hn (by exact hc) ⟨fun h => (by cases h), fun h => absurd h H.out⟩).mono ?_
  rintro e w' ⟨rfl, q, rfl⟩
  go_wp2
  go_ret
  exact ⟨rfl, by simpa using below_grow w.heap.size w (Nat.le_refl _) q #[]⟩

theorem walk (a0 : Int) (a1 : Option Addr) (len1 cap1 : Nat) (z1 : List Int) (a2 : Int) (a3 : Bool) (a4 : Int) (a5 : Int) (w : World) (w0 : (Lit.int .u64 a0).wf = true) (w1 : IsRow .u64 w a1 len1 cap1 z1) (w2 : (Lit.int .u64 a2).wf = true) (w4 : (Lit.int .i64 a4).wf = true) (w5 : (Lit.int .u64 a5).wf = true) :
    Calls Try.prog 3 #[.int .u64 a0, .slice a1 len1 cap1, .int .u64 a2, .bool a3, .int .i64 a4, .int .u64 a5] w fun e w' => e = .returned (.bool true) ∧ Below w.heap.size w w' := by
  by_cases hlen : len1 ≤ 65536
  · by_cases hk : a4 < 0 ∨ (len1 : Int) < a4
    · exact walk_off a0 a1 len1 cap1 a2 a3 a4 a5 w hlen hk
    · obtain ⟨k, rfl⟩ := Int.eq_ofNat_of_zero_le (show 0 ≤ a4 by omega)
      have hkl : k ≤ len1 := by omega
      obtain ⟨b, off, ha, hb, hrow⟩ : ∃ b off, (0 < len1 → a1 = some ⟨b, off, none⟩) ∧ (0 < len1 → b < w.heap.size) ∧ RowAt w b off len1 z1 := by
        rcases w1 with ⟨_, rfl, _, _⟩ | ⟨x, rfl, hl, hm, hz, hcell, hwf⟩
        · exact ⟨0, 0, fun h => absurd h (Nat.lt_irrefl _), fun h => absurd h (Nat.lt_irrefl _), fun j hj => absurd hj (Nat.not_lt_zero _)⟩
        · obtain ⟨b, off, spot⟩ := x
          have hs : 0 < len1 → spot = none := fun h0 => by simpa [Addr.add] using World.cell?_spot (hcell 0 (by omega))
          have hrow : RowAt w b off len1 z1 := fun j hj => by
            have e := hs (by omega)
            subst e
            rw [← add_plain]; exact hcell j (by omega)
          exact ⟨b, off, fun h => by rw [hs h], fun h => World.block_lt_of_cell? _ _ (hrow 0 h), hrow⟩
      by_cases hok : Plain.okTo z1 a2 len1
      · exact split3 a0 a1 b off len1 cap1 z1 a2 a3 k a5 w ha hlen hb hkl hrow hok
      · exact walk_unsorted a0 a1 b off len1 cap1 z1 a2 a3 k a5 w ha hlen hkl hrow hok
  · refine walk_long a0 a1 len1 cap1 a2 a3 a4 a5 w ?_ (by omega)
    rcases w1 with ⟨_, rfl, _, _⟩ | ⟨x, rfl, hl, hm, _⟩
    · omega
    · omega

/-! ### THE ROW's STEP: WRITTEN OUT: LEAVE IT -/
set_option maxRecDepth 100000 in
theorem lifted (os : Os) (started : os.Started) (H : Type) (enc : TypeId × Value → H) :
    ReturnsInHanded {} Try.checked os 3 .any (Rows.fnSeesSplitActiveSpec.pre6 enc Try.prog Try.f3 Rows.fnSeesSplitActiveRow.domain false) (Rows.fnSeesSplitActiveSpec.post enc Try.prog Try.f3 false true false false) := by
  refine returnsInHanded_of_change (C := Try.checked) own started (by kernel_rfl) Try.func3
    (ChangeSpec.witness6 (enc := enc) (C := Try.checked) false ⟨#[], #[.int .u64 0, .slice none 0 0, .int .u64 0, .bool false, .int .i64 0, .int .u64 0], []⟩ 8 (by kernel_rfl) (by kernel_rfl) (by kernel_rfl) (by kernel_rfl)) ?_
  intro W base args ds gs before hval0 hW hcnd _
  have hval : ∀ (j : Nat) t v, Try.f3.params[j]? = some t → args[j]? = some v → Value.okWide Try.prog W .any base t v := hval0
  have hW' := hW
  obtain ⟨p, q, hA0, hV, rfl, hfz, hnd⟩ := hW
  have hA : DataW.TrodAll enc Try.prog W 0 (fun _ => true) true Try.f3.params.toList args.toList ds p := hA0
  rw [Try.params3] at hA hval
  obtain ⟨v0, vs0, d0, ds0, p0, q0, hargs, rfl, rfl, h0, r0⟩ := trodAll_cons hA
  obtain ⟨v1, vs1, d1, ds1, p1, q1, rfl, rfl, rfl, h1, r1⟩ := trodAll_cons r0
  obtain ⟨v2, vs2, d2, ds2, p2, q2, rfl, rfl, rfl, h2, r2⟩ := trodAll_cons r1
  obtain ⟨v3, vs3, d3, ds3, p3, q3, rfl, rfl, rfl, h3, r3⟩ := trodAll_cons r2
  obtain ⟨v4, vs4, d4, ds4, p4, q4, rfl, rfl, rfl, h4, r4⟩ := trodAll_cons r3
  obtain ⟨v5, vs5, d5, ds5, p5, q5, rfl, rfl, rfl, h5, r5⟩ := trodAll_cons r4
  obtain ⟨rfl, rfl, rfl⟩ := trodAll_nil r5
  obtain rfl : args = #[v0, v1, v2, v3, v4, v5] := by cases args; simp_all
  obtain ⟨rfl, rfl⟩ := trodVars_none hV
  obtain ⟨a0, rfl, rfl, rfl, w0⟩ := open_int Try.underlying22 (hval 0 22 v0 rfl rfl) h0
  obtain ⟨a1, len1, cap1, rfl⟩ := okWide_slice Try.underlying23 (hval 1 23 v1 rfl rfl)
  have k1 := h1
  have lt1 : ∀ x ∈ p1, x.block < W.heap.size := by obtain ⟨m, hm⟩ := k1; exact DataW.trod_lt m _ _ _ hm
  obtain ⟨z1, w1⟩ : ∃ zs, IsRow .u64 W a1 len1 cap1 zs := by
    obtain ⟨fuel, hf⟩ := h1
    rcases open_ints Try.underlying23 Try.underlying22 (by kernel_rfl) hf with ⟨hcs, _⟩ | ⟨x, l, c, zs, hcs, _, hl, hm, hz, _, hcell, hwz⟩
    · simp [Value.cells] at hcs
      obtain ⟨rfl, rfl, rfl⟩ := hcs
      exact ⟨[], .inl ⟨rfl, rfl, rfl, rfl⟩⟩
    · simp [Value.cells] at hcs
      obtain ⟨rfl, rfl, rfl⟩ := hcs
      exact ⟨zs, .inr ⟨_, rfl, hl, hm, by simpa using hz, hcell, hwz⟩⟩
  obtain ⟨a2, rfl, rfl, rfl, w2⟩ := open_int Try.underlying22 (hval 2 22 v2 rfl rfl) h2
  obtain ⟨a3, rfl, rfl, rfl⟩ := open_bool Try.underlying4 (hval 3 4 v3 rfl rfl) h3
  obtain ⟨a4, rfl, rfl, rfl, w4⟩ := open_int Try.underlying3 (hval 4 3 v4 rfl rfl) h4
  obtain ⟨a5, rfl, rfl, rfl, w5⟩ := open_int Try.underlying22 (hval 5 22 v5 rfl rfl) h5
  clear hA0 hval0
  refine (walk a0 a1 len1 cap1 z1 a2 a3 a4 a5 W w0 w1 w2 w4 w5).mono fun e W' ⟨he, bel⟩ => ?_
  subst he
  exact ⟨_, rfl, _, _, _, [], _, [], hW', trodAll_mk1 (shut_bool Try.underlying4 _), (trodAll_cons_mk (shut_int Try.underlying22 w0) (trodAll_cons_mk (Below.trod laidOut (by kernel_rfl) (of_decide_eq_true (by kernel_rfl)) k1 bel lt1) (trodAll_cons_mk (shut_int Try.underlying22 w2) (trodAll_cons_mk (shut_bool Try.underlying4 _) (trodAll_cons_mk (shut_int Try.underlying3 w4) (trodAll_cons_mk (shut_int Try.underlying22 w5) trodAll_mk0)))))), rfl, bel.frame _, fun h => by cases h⟩

theorem over : Rows.fnSeesSplitActiveRow.holds Try.pinned (OpenSpec.ofChange Rows.fnSeesSplitActiveSpec) :=
  OpenClaim.holds_of_wide 3 Try.f3 rfl rfl rfl rfl rfl rfl rfl ⟨rfl, rfl, rfl, rfl, rfl⟩ rfl rfl rfl rfl rfl (by kernel_rfl) Try.func3 (by kernel_rfl)
    (of_decide_eq_true (by kernel_rfl)) (by unfold Func.isWrapper; first | (rw [if_pos (by decide +kernel)]; kernel_rfl) | (rw [if_neg (by decide +kernel)]; exact ⟨rfl, rfl⟩))
    (fun os started H enc _ => lifted os started H enc)

/-- ████ THE STATEMENT ████ -/
theorem proved : Rows.FnSeesSplitActiveSaid := over
#print axioms proved
end Go.Proofs.Qxb6630730a.fnSeesSplitActive
