import Derived.Test.Qxb6630826aSort
import Derived.RegionTactic
import Derived.Laws.StructEq
namespace Go.Proofs.Qxb6630826a
open Go.RowKit
set_option linter.unusedVariables false

theorem irrM (x : ByteArray × ByteArray × Int) : ltM x x = false := Plain.bl_irrefl _
theorem triM (x y : ByteArray × ByteArray × Int) (h1 : ltM x y = false) (h2 : ltM y x = false) : x.1.toList = y.1.toList := Plain.bl_tri _ _ h1 h2

theorem dist_pairwise {M : Nat → ByteArray × ByteArray × Int} {n : Nat} (h : Dist M n) : (Plain.tab (fun j => voter (M j)) n).Pairwise (fun a b => a.1.toList ≠ b.1.toList) :=
  Plain.tab_pairwise _ n (fun i hi j hj e => h i hi j hj e.symm)

/-- Each member stands at the place equal to the number of ids below its own. -/
theorem placedM {M M' : Nat → ByteArray × ByteArray × Int} {n : Nat} (hd : Dist M n) (hp : (Plain.tab M' n).Perm (Plain.tab (fun j => voter (M j)) n)) (hs : Plain.Sorted ltM (Plain.tab M' n)) (k : Nat) (hk : k < n) :
    Plain.cnt (fun t => lessB (M t).1 (M k).1) n < n ∧ M' (Plain.cnt (fun t => lessB (M t).1 (M k).1) n) = voter (M k) := by
  have h := Plain.placed irrM triM hp hs (dist_pairwise hd) (Plain.tab_mem (fun j => voter (M j)) n k hk)
  rw [Plain.cnt_tab] at h
  have e : Plain.cnt (fun j => ltM (voter (M j)) (voter (M k))) n = Plain.cnt (fun t => lessB (M t).1 (M k).1) n := rfl
  rw [e] at h
  have hl : Plain.cnt (fun t => lessB (M t).1 (M k).1) n < n := by
    rcases Nat.lt_or_ge (Plain.cnt (fun t => lessB (M t).1 (M k).1) n) n with h' | h'
    · exact h'
    · rw [List.getElem?_eq_none (by rw [Plain.tab_length]; exact h')] at h; cases h
  rw [Plain.tab_get _ _ _ hl] at h
  exact ⟨hl, by injection h⟩

theorem neq34 (a b : ByteArray) (z : Int) (w : World) : (binOp .neq 34 (.agg #[.string a, .string b, .int .i64 z]) (.agg #[.string a, .string b, .int .i64 z])).run Try.prog w = .ok (.bool false) w := by
  have hS : Try.prog.underlying 34 = some (.struct (Try.prog.fieldsOf 34)) := by kernel_rfl
  have hp : Try.prog.stoodInHeld 34 = false := by kernel_rfl
  rw [run_neq_struct, show (10000 : Nat) = 9999 + 1 from rfl, run_equalIn_agg w 9999 34 _ _ hS hp]
  simp only [Program.fieldsOf, Try.underlying34]
  go_simp

set_option maxHeartbeats 4000000 in
set_option maxRecDepth 100000 in
theorem rank3 (b off n c : Nat) (M : Nat → ByteArray × ByteArray × Int) (w : World) (hb : b < w.heap.size) (hn1 : 1 ≤ n) (hn : n ≤ 4096) (hc : Mems w b off n M) (hd : Dist M n) :
    Calls Try.prog 3 #[.slice (some ⟨b, off, none⟩) n c] w fun e w' => e = .returned (.bool true) ∧ Below w.heap.size w w' := by
  have HC : Aside (Mems w b off n M) := hc
  have HD : Aside (Dist M n) := hd
  have hn0 : ((n : Int) == 0) = false := beq_eq_false_iff_ne.2 (by omega)
  have hn0i : (0 : Int) < (n : Int) := by omega
  have hne27 := fun w => run_neq_slice_nil_any (P := Try.prog) w 27 9 none 0 0 0 0 Try.underlying27
  clear hc hd
  go_enter Try.func3, Try.ntmps3
  go_wp2_with fail
  refine (bytes5 _ b off _ _ M _ (fun _ => rfl) (by unfold maxLen; omega) HC.out).mono ?_
  rintro e w' ⟨⟨r, rfl⟩, rfl⟩
  cases r
  · go_wp2
    go_ret
    exact ⟨rfl, Below.refl _ _⟩
  go_wp2_with fail
  refine (size6 _ b off _ _ M _ (fun _ => rfl) hn HC.out).mono ?_
  rintro e w' ⟨⟨r, rfl⟩, rfl⟩
  cases r
  · go_wp2
    go_ret
    exact ⟨rfl, Below.refl _ _⟩
  go_wp2_with fail
  refine (distinct7 true _ b off _ _ M _ (fun _ => rfl) hn HC.out ⟨fun _ => HD.out, fun _ => rfl⟩).mono ?_
  rintro e w' ⟨rfl, d, rfl⟩
  have bl0 : Below w.heap.size w (w.drewN d) := Go.below_drewN (Below.refl _ _) d
  generalize w.drewN d = W0 at bl0 ⊢
  have hbW : b < W0.heap.size := Nat.lt_of_lt_of_le hb bl0.size
  have hm0 := HC.out.below bl0 hb
  go_wp2_with fail
  refine (to8 b off n _ M _ hbW hn hm0).mono ?_
  rintro e W1 ⟨rfl, hMade, bl1⟩
  have hm1 := hMade.mems
  have hl1 := hMade.lt
  go_wp2_with fail
  refine (new9 sortSaid W0.heap.size 0 n _ M _ hl1 hn1 hn hm1).mono ?_
  rintro e W2 ⟨gc, cap, M', rfl, hp, hs, hmG, hlG, bl2⟩
  have PL : Aside (∀ k, k < n → Plain.cnt (fun t => lessB (M t).1 (M k).1) n < n ∧ M' (Plain.cnt (fun t => lessB (M t).1 (M k).1) n) = voter (M k)) := fun k hk => placedM HD.out hp hs k hk
  have hbW1 : b < W1.heap.size := Nat.lt_of_lt_of_le hbW bl1.size
  have hbW2 : b < W2.heap.size := Nat.lt_of_lt_of_le hbW1 bl2.size
  have hmA : Aside (Mems W2 b off n M) := (hm0.below bl1 hbW).below bl2 hbW1
  have hmI : Aside (Mems W2 W0.heap.size 0 n M) := hm1.below bl2 hl1
  have hlI : W0.heap.size < W2.heap.size := Nat.lt_of_lt_of_le hl1 bl2.size
  have hmG' : Aside (Mems W2 gc 0 n M') := hmG
  have blw : Below w.heap.size w W2 := (bl0.trans (bl1.mono bl0.size)).trans (bl2.mono (Nat.le_trans bl0.size bl1.size))
  clear hp hs hmG bl0 bl1 bl2 hm0 hm1 hMade hl1 hbW hbW1
  generalize W0.heap.size = gi at hmI hlI ⊢
  go_wp2_with fail
  have bl3 : Below W2.heap.size W2 (W2.alloc (.cells #[.int .u64 1, .string (M 0).1, .slice (some ⟨gc, 0, none⟩) n cap, .slice none 0 0] 29)) := (Below.refl _ _).alloc (Nat.le_refl _) _
  have x1 : (W2.alloc (.cells #[.int .u64 1, .string (M 0).1, .slice (some ⟨gc, 0, none⟩) n cap, .slice none 0 0] 29)).cell? ⟨W2.heap.size, 1, none⟩ = some (.string (M 0).1) := by simp
  have x2 : (W2.alloc (.cells #[.int .u64 1, .string (M 0).1, .slice (some ⟨gc, 0, none⟩) n cap, .slice none 0 0] 29)).cell? ⟨W2.heap.size, 2, none⟩ = some (.slice (some ⟨gc, 0, none⟩) n cap) := by simp
  have x3 : (W2.alloc (.cells #[.int .u64 1, .string (M 0).1, .slice (some ⟨gc, 0, none⟩) n cap, .slice none 0 0] 29)).cell? ⟨W2.heap.size, 3, none⟩ = some (.slice none 0 0) := by simp
  have hV : W2.heap.size < (W2.alloc (.cells #[.int .u64 1, .string (M 0).1, .slice (some ⟨gc, 0, none⟩) n cap, .slice none 0 0] 29)).heap.size := by simp
  have hmA3 : Aside (Mems _ b off n M) := hmA.out.below bl3 hbW2
  have hmI3 : Aside (Mems _ gi 0 n M) := hmI.out.below bl3 hlI
  have hmG3 : Aside (Mems _ gc 0 n M') := hmG'.out.below bl3 hlG
  have hbW3 := Nat.lt_of_lt_of_le hbW2 bl3.size
  have hlI3 := Nat.lt_of_lt_of_le hlI bl3.size
  have hlG3 := Nat.lt_of_lt_of_le hlG bl3.size
  have blw3 := blw.trans (bl3.mono blw.size)
  clear hmA hmI hmG' hbW2 hlI hlG blw bl3
  generalize W2.alloc (.cells #[.int .u64 1, .string (M 0).1, .slice (some ⟨gc, 0, none⟩) n cap, .slice none 0 0] 29) = W3 at x1 x2 x3 hV hmA3 hmI3 hmG3 hbW3 hlI3 hlG3 blw3 ⊢
  generalize W2.heap.size = V at x1 x2 x3 hV ⊢
  obtain ⟨a0, _, _⟩ := hmA3.out 0 (by omega)
  rw [Nat.zero_mul, Nat.add_zero] at a0
  go_quiet (fail)
  go_wp2
  clear a0 x1 x3 hne27
  go_loopw [5] (fun i wr => ∃ k : Nat, k ≤ n ∧ i = .int .i64 k ∧ Below W3.heap.size W3 wr) (fun i _ => n - (intOf i).toNat)
  case atStart => exact ⟨0, Nat.zero_le _, rfl, Go.below_drewN (Below.refl _ _) _⟩
  case round =>
    obtain ⟨k, hk, rfl, hB⟩ := hrel
    by_cases hlt : k < n
    · obtain ⟨hpl, hpe⟩ := PL.out k hlt
      have hA := hmA3.out.below hB hbW3
      obtain ⟨a0, a1, a2⟩ := hA k hlt
      obtain ⟨i0, i1, i2⟩ := (hmI3.out.below hB hlI3) k hlt
      rw [Nat.zero_add] at i0 i1 i2
      obtain ⟨g0, g1, g2⟩ := (hmG3.out.below hB hlG3) _ hpl
      rw [Nat.zero_add, hpe] at g0 g1 g2
      have x2' := (hB.cell (p := ⟨V, 2, none⟩) hV).trans x2
      have HAw : Aside (Mems wr b off n M) := hA
      have hki : (k : Int) < (n : Int) := by omega
      clear hA hpe
      go_wp2
      go_loopw [6, 7] (fun r v wi => ∃ j d : Nat, j ≤ n ∧ v = .int .i64 j ∧ r = .int .i64 (Plain.cnt (fun t => lessB (M t).1 (M k).1) j) ∧ wi = wr.drewN d) (fun _ v _ => n - (intOf v).toNat)
      case atStart => exact ⟨0, 0, Nat.zero_le _, rfl, rfl, rfl⟩
      case round =>
        obtain ⟨j, d, hj, rfl, rfl, rfl⟩ := hrel
        have hcl := Plain.cnt_le (fun t => lessB (M t).1 (M k).1) j
        by_cases hjl : j < n
        · obtain ⟨b0, _, _⟩ := HAw.out j hjl
          have hji : (j : Int) < (n : Int) := by omega
          have hS : Aside (Plain.cnt (fun t => lessB (M t).1 (M k).1) (j + 1) = if lessB (M j).1 (M k).1 = true then Plain.cnt (fun t => lessB (M t).1 (M k).1) j + 1 else Plain.cnt (fun t => lessB (M t).1 (M k).1) j) := rfl
          cases hless : lessB (M j).1 (M k).1
          · have hb' : Op.bytesLess (M j).1.toList (M k).1.toList = false := hless
            rw [hless] at hS
            generalize Plain.cnt (fun t => lessB (M t).1 (M k).1) j = cj at hcl hS ⊢
            clear g0 g1 g2 i0 i1 i2 a1 a2 x2' hless
            go_wp2
            go_quiet (fail)
            go_wp2
            go_roundw
            case rel => exact ⟨j + 1, _, by omega, by go_num, by rw [hS.out]; rfl, rfl⟩
            case measure => simp [intOf]; omega
          · have hb' : Op.bytesLess (M j).1.toList (M k).1.toList = true := hless
            rw [hless] at hS
            generalize Plain.cnt (fun t => lessB (M t).1 (M k).1) j = cj at hcl hS ⊢
            clear g0 g1 g2 i0 i1 i2 a1 a2 x2' hless
            go_wp2
            go_quiet (fail)
            go_wp2
            go_roundw
            case rel => exact ⟨j + 1, _, by omega, by go_num, by rw [hS.out, if_pos trivial]; go_num, rfl⟩
            case measure => simp [intOf]; omega
        · have e : n = j := by omega
          subst e
          have hS34 : Try.prog.underlying 34 = some (.struct (Try.prog.fieldsOf 34)) := by kernel_rfl
          have hp34 : Try.prog.stoodInHeld 34 = false := by kernel_rfl
          have hm34 : Try.prog.eqGuardType Try.prog.depth 34 = false := by kernel_rfl
          generalize Plain.cnt (fun t => lessB (M t).1 (M k).1) n = rk at hcl hpl g0 g1 g2 ⊢
          have hri : (rk : Int) < (n : Int) := by omega
          have hszr : W3.heap.size ≤ wr.heap.size := hB.size
          have hgcw : gc < wr.heap.size := by omega
          have hVw : V < wr.heap.size := by omega
          have hbw : b < wr.heap.size := by omega
          have hgiw : gi < wr.heap.size := by omega
          simp only [voter] at g0 g1 g2
          have hBq : Below W3.heap.size W3 (wr.drewN d) := Go.below_drewN hB d
          have a0q : (wr.drewN d).cell? _ = _ := a0
          have a1q : (wr.drewN d).cell? _ = _ := a1
          have a2q : (wr.drewN d).cell? _ = _ := a2
          have i0q : (wr.drewN d).cell? _ = _ := i0
          have i1q : (wr.drewN d).cell? _ = _ := i1
          have i2q : (wr.drewN d).cell? _ = _ := i2
          have g0q : (wr.drewN d).cell? _ = _ := g0
          have g1q : (wr.drewN d).cell? _ = _ := g1
          have g2q : (wr.drewN d).cell? _ = _ := g2
          have x2q : (wr.drewN d).cell? _ = _ := x2'
          have hgcq : gc < (wr.drewN d).heap.size := hgcw
          have hVq : V < (wr.drewN d).heap.size := hVw
          have hbq : b < (wr.drewN d).heap.size := hbw
          have hgiq : gi < (wr.drewN d).heap.size := hgiw
          have hszq : W3.heap.size ≤ (wr.drewN d).heap.size := hszr
          clear a0 a1 a2 i0 i1 i2 g0 g1 g2 x2' hgcw hVw hbw hgiw hszr HAw hcl hpl
          generalize wr.drewN d = wq at hBq a0q a1q a2q i0q i1q i2q g0q g1q g2q x2q hgcq hVq hbq hgiq hszq ⊢
          go_wp2
          go_quiet (fail)
          go_wp2
          rename_i nq _ _
          have hBy : Below wq.heap.size wq ((wq.alloc (.cells #[.string (M k).1, .string (M k).2.1, .int .i64 0] 34)).drewN nq) := Go.below_drewN ((Below.refl _ _).alloc (Nat.le_refl _) _) nq
          have hBx := hBq.trans (hBy.mono hszq)
          have a0x := (hBy.cell (p := ⟨b, off + k * 3, none⟩) hbq).trans a0q
          have a1x := (hBy.cell (p := ⟨b, off + k * 3 + 1, none⟩) hbq).trans a1q
          have a2x := (hBy.cell (p := ⟨b, off + k * 3 + 2, none⟩) hbq).trans a2q
          have i0x := (hBy.cell (p := ⟨gi, k * 3, none⟩) hgiq).trans i0q
          have i1x := (hBy.cell (p := ⟨gi, k * 3 + 1, none⟩) hgiq).trans i1q
          have i2x := (hBy.cell (p := ⟨gi, k * 3 + 2, none⟩) hgiq).trans i2q
          clear hBy a0q a1q a2q i0q i1q i2q g0q g1q g2q x2q hBq
          generalize ((wq.alloc (.cells #[.string (M k).1, .string (M k).2.1, .int .i64 0] 34)).drewN nq) = wx at hBx a0x a1x a2x i0x i1x i2x ⊢
          have hneq := fun w => neq34 (M k).1 (M k).2.1 (M k).2.2 w
          clear hS34 hp34
          go_quiet (fail)
          go_wp2
          go_roundw
          case rel => exact ⟨k + 1, by omega, by go_num, Go.below_drewN hBx _⟩
          case measure => simp [intOf]; omega
    · go_wp2
      go_ret
      exact ⟨rfl, blw3.trans (hB.mono blw3.size)⟩
end Go.Proofs.Qxb6630826a
