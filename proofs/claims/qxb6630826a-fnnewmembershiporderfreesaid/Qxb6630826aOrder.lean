import Derived.Test.Qxb6630826aSame
namespace Go.Proofs.Qxb6630826a
open Go.RowKit
set_option linter.unusedVariables false

/-- A new variable that holds what NewMembership gave. -/
abbrev memObj (x : ByteArray) (g n cap : Nat) : Obj := .cells #[.int .u64 1, .string x, .slice (some ⟨g, 0, none⟩) n cap, .slice none 0 0] 29

/-- Such a variable, read. -/
structure Holds (W : World) (V : Nat) (x : ByteArray) (g n cap : Nat) : Prop where
  c0 : W.cell? ⟨V, 0, none⟩ = some (.int .u64 1)
  c1 : W.cell? ⟨V, 1, none⟩ = some (.string x)
  c2 : W.cell? ⟨V, 2, none⟩ = some (.slice (some ⟨g, 0, none⟩) n cap)
  c3 : W.cell? ⟨V, 3, none⟩ = some (.slice none 0 0)
  lt : V < W.heap.size

theorem Holds.new (W : World) (x : ByteArray) (g n cap : Nat) : Holds (W.alloc (memObj x g n cap)) W.heap.size x g n cap :=
  ⟨by simp, by simp, by simp, by simp, by simp⟩

theorem Holds.below {W W' : World} {V : Nat} {x : ByteArray} {g n cap : Nat} (h : Holds W V x g n cap) (hb : Below W.heap.size W W') : Holds W' V x g n cap :=
  ⟨(hb.cell (p := ⟨V, 0, none⟩) h.lt).trans h.c0, (hb.cell (p := ⟨V, 1, none⟩) h.lt).trans h.c1, (hb.cell (p := ⟨V, 2, none⟩) h.lt).trans h.c2, (hb.cell (p := ⟨V, 3, none⟩) h.lt).trans h.c3, Nat.lt_of_lt_of_le h.lt hb.size⟩

theorem rot_zero (M : Nat → ByteArray × ByteArray × Int) {n k : Nat} (h : k < n) : rotM M n k 0 = M k := by
  unfold rotM
  rw [if_pos (by omega), Nat.add_zero]
theorem rot_back (M : Nat → ByteArray × ByteArray × Int) (n k t : Nat) : rotM M n k ((n - k) + t) = M t := by
  unfold rotM
  rw [if_neg (by omega), Nat.add_sub_cancel_left]

set_option maxHeartbeats 4000000 in
set_option maxRecDepth 100000 in
theorem order4 (b off n c k : Nat) (M : Nat → ByteArray × ByteArray × Int) (w : World) (hb : b < w.heap.size) (hkn : k < n) (hn : n ≤ 4096) (hc : Mems w b off n M) (hd : Dist M n) :
    Calls Try.prog 4 #[.slice (some ⟨b, off, none⟩) n c, .int .i64 k] w fun e w' => e = .returned (.bool true) ∧ Below w.heap.size w w' := by
  have HC : Aside (Mems w b off n M) := hc
  have HD : Aside (Dist M n) := hd
  have hn1 : 1 ≤ n := by omega
  have hn0 : ((n : Int) == 0) = false := beq_eq_false_iff_ne.2 (by omega)
  have hn0i : (0 : Int) < (n : Int) := by omega
  have hk0 : decide ((k : Int) < 0) = false := decide_eq_false (by omega)
  have hki : (k : Int) < (n : Int) := by omega
  have hkd : decide ((n : Int) ≤ (k : Int)) = false := decide_eq_false (by omega)
  have hne27 := fun w => run_neq_slice_nil_any (P := Try.prog) w 27 9 none 0 0 0 0 Try.underlying27
  obtain ⟨i0, hi, hz0, hz1, hz2⟩ := info_parts info34
  clear hc hd
  go_enter Try.func4, Try.ntmps4
  go_wp2_with fail
  refine (bytes10 _ b off _ _ _ M _ (fun _ => rfl) (by unfold maxLen; omega) HC.out).mono ?_
  rintro e w' ⟨⟨r, rfl⟩, rfl⟩
  cases r
  · go_wp2
    go_ret
    exact ⟨rfl, Below.refl _ _⟩
  go_wp2_with fail
  refine (size6 _ b off _ _ M _ (fun _ => rfl) hn HC.out).mono ?_
  rintro e w' ⟨⟨r, rfl⟩, rfl⟩
  cases r
  · go_wp2
    go_ret
    exact ⟨rfl, Below.refl _ _⟩
  go_wp2_with fail
  refine (distinct7 true _ b off _ _ M _ (fun _ => rfl) hn HC.out ⟨fun _ => HD.out, fun _ => rfl⟩).mono ?_
  rintro e w' ⟨rfl, d, rfl⟩
  have bl0 : Below w.heap.size w (w.drewN d) := Go.below_drewN (Below.refl _ _) d
  generalize w.drewN d = W0 at bl0 ⊢
  have hbW : b < W0.heap.size := Nat.lt_of_lt_of_le hb bl0.size
  have hm0 := HC.out.below bl0 hb
  go_wp2_with fail
  refine (to8 b off n _ M _ hbW hn hm0).mono ?_
  rintro e W1 ⟨rfl, hMade, bl1⟩
  have hm1 := hMade.mems
  have hl1 := hMade.lt
  go_wp2_with fail
  refine (new9 sortSaid W0.heap.size 0 n _ M _ hl1 hn1 hn hm1).mono ?_
  rintro e W2 ⟨ga, capa, A, rfl, hpA', hsA', hmA', hlA, bl2⟩
  have hpA : Aside _ := hpA'
  have hsA : Aside _ := hsA'
  have hbW1 : b < W1.heap.size := Nat.lt_of_lt_of_le hbW bl1.size
  have hbW2 : b < W2.heap.size := Nat.lt_of_lt_of_le hbW1 bl2.size
  have hmM : Aside (Mems W2 b off n M) := (hm0.below bl1 hbW).below bl2 hbW1
  have hmA : Aside (Mems W2 ga 0 n A) := hmA'
  have blw : Below w.heap.size w W2 := (bl0.trans (bl1.mono bl0.size)).trans (bl2.mono (Nat.le_trans bl0.size bl1.size))
  clear hpA' hsA' hmA' bl0 bl1 bl2 hm0 hm1 hMade hl1 hbW hbW1
  generalize W0.heap.size = gi at ⊢
  go_wp2_with (
    at_make
    have X3 := Holds.new W2 (M 0).1 ga n capa
    have bl3 : Below W2.heap.size W2 (W2.alloc (memObj (M 0).1 ga n capa)) := (Below.refl _ _).alloc (Nat.le_refl _) _
    have hmM3 : Aside (Mems _ b off n M) := hmM.out.below bl3 hbW2
    have hmA3 : Aside (Mems _ ga 0 n A) := hmA.out.below bl3 hlA
    have hbW3 := Nat.lt_of_lt_of_le hbW2 bl3.size
    have hlA3 := Nat.lt_of_lt_of_le hlA bl3.size
    have blw3 := blw.trans (bl3.mono blw.size)
    unfold memObj at X3 bl3 hmM3 hmA3 hbW3 hlA3 blw3
    clear hmM hmA hbW2 hlA blw bl3
    generalize W2.alloc (.cells #[.int .u64 1, .string (M 0).1, .slice (some ⟨ga, 0, none⟩) n capa, .slice none 0 0] 29) = W3 at X3 hmM3 hmA3 hbW3 hlA3 blw3 ⊢
    generalize W2.heap.size = Va at X3 ⊢
    have hX3 : Aside _ := X3
    clear X3
    refine wpList_make_full _ rfl _ _ 24 rfl W3.heap.size 34 i0 _ 3 Try.underlying24 hi hz0 hz1 _ _ _ _ n rfl rfl (by omega) (by omega) (by rw [hz2]; omega) (by unfold maxLen; omega) (Nat.le_refl _) ?_
    intro w1 hown hgrow)
  have N0 : Made w1 W3.heap.size n 0 (rotM M n k) := ⟨⟨_, hown, fun j hj => absurd hj (Nat.not_lt_zero _)⟩⟩
  have B0 : Below W3.heap.size W3 w1 := (Below.refl _ _).grown hgrow (Nat.le_refl _) (fun j hj => by cases hj)
  clear hown hgrow
  go_loopw [8, 9] (fun x i wr => ∃ t : Nat, t ≤ n - k ∧ x = .int .i64 t ∧ i = .int .i64 (k + t : Nat) ∧ Made wr W3.heap.size n t (rotM M n k) ∧ Below W3.heap.size W3 wr) (fun x _ _ => n - k - (intOf x).toNat)
  case atStart => exact ⟨0, Nat.zero_le _, rfl, rfl, N0, B0⟩
  case round =>
    obtain ⟨t, ht, rfl, rfl, hM, hB⟩ := hrel
    by_cases hlt : t < n - k
    · obtain ⟨ck, dk, ek⟩ := hmM3.out (k + t) (by omega)
      have er : rotM M n k t = M (k + t) := by simp [rotM, hlt]
      have ck' := (hB.cell (p := ⟨b, off + (k + t) * 3, none⟩) hbW3).trans ck
      have dk' := (hB.cell (p := ⟨b, off + (k + t) * 3 + 1, none⟩) hbW3).trans dk
      have ek' := (hB.cell (p := ⟨b, off + (k + t) * 3 + 2, none⟩) hbW3).trans ek
      obtain ⟨⟨v0, r0⟩, s0⟩ := hM.cells (t * 3) (by omega)
      obtain ⟨⟨v1, r1⟩, s1⟩ := hM.cells (t * 3 + 1) (by omega)
      obtain ⟨⟨v2, r2⟩, s2⟩ := hM.cells (t * 3 + 2) (by omega)
      have X : Aside (Made (((wr.setCell ⟨W3.heap.size, t * 3, none⟩ (.string (M (k + t)).1)).setCell ⟨W3.heap.size, t * 3 + 1, none⟩ (.string (M (k + t)).2.1)).setCell ⟨W3.heap.size, t * 3 + 2, none⟩ (.int .i64 (M (k + t)).2.2)) W3.heap.size n (t + 1) (rotM M n k)) := by
        have := hM.store (by omega : t < n)
        rw [er] at this
        exact this
      have Y : Aside (Below W3.heap.size W3 (((wr.setCell ⟨W3.heap.size, t * 3, none⟩ (.string (M (k + t)).1)).setCell ⟨W3.heap.size, t * 3 + 1, none⟩ (.string (M (k + t)).2.1)).setCell ⟨W3.heap.size, t * 3 + 2, none⟩ (.int .i64 (M (k + t)).2.2))) := ((hB.setCell (Nat.le_refl _) _).setCell (Nat.le_refl _) _).setCell (Nat.le_refl _) _
      clear ck dk ek hM er
      generalize hq : k + t = q at ck' dk' ek' X Y ⊢
      have hqi : (q : Int) < (n : Int) := by omega
      have hti : (t : Int) < (n : Int) := by omega
      go_wp2
      go_roundw
      case rel => exact ⟨t + 1, by omega, by go_num, by rw [← Nat.add_assoc, hq]; go_num, X.out, Y.out⟩
      case measure => simp [intOf]; omega
    · have e : t = n - k := by omega
      subst e
      have e2 : k + (n - k) = n := by omega
      rw [e2]
      have hm : (n - k) + k = n := by omega
      have e0 : rotM M n k 0 = M k := rot_zero M hkn
      have hR : Aside (∀ t, t < k → rotM M n k ((n - k) + t) = M t) := fun t ht => rot_back M n k t
      have hmn : n - k ≤ n := Nat.sub_le _ _
      generalize n - k = m at hm hR hmn hM ⊢
      have hM0 : Aside _ := hM
      have hB0 : Aside _ := hB
      clear hM hB e2 hlt ht
      go_wp2
      go_loopw [8, 10] (fun x i wi => ∃ t : Nat, t ≤ k ∧ x = .int .i64 (m + t : Nat) ∧ i = .int .i64 t ∧ Made wi W3.heap.size n (m + t) (rotM M n k) ∧ Below W3.heap.size W3 wi) (fun _ i _ => k - (intOf i).toNat)
      case atStart => exact ⟨0, Nat.zero_le _, rfl, rfl, hM0.out, hB0.out⟩
      case round =>
        obtain ⟨t, ht, rfl, rfl, hM, hB⟩ := hrel
        clear hM0 hB0
        by_cases hlt : t < k
        · obtain ⟨ck, dk, ek⟩ := hmM3.out t (by omega)
          have er := hR.out t hlt
          have ck' := (hB.cell (p := ⟨b, off + t * 3, none⟩) hbW3).trans ck
          have dk' := (hB.cell (p := ⟨b, off + t * 3 + 1, none⟩) hbW3).trans dk
          have ek' := (hB.cell (p := ⟨b, off + t * 3 + 2, none⟩) hbW3).trans ek
          obtain ⟨⟨v0, r0⟩, s0⟩ := hM.cells ((m + t) * 3) (by omega)
          obtain ⟨⟨v1, r1⟩, s1⟩ := hM.cells ((m + t) * 3 + 1) (by omega)
          obtain ⟨⟨v2, r2⟩, s2⟩ := hM.cells ((m + t) * 3 + 2) (by omega)
          have X : Aside (Made (((wr.setCell ⟨W3.heap.size, (m + t) * 3, none⟩ (.string (M t).1)).setCell ⟨W3.heap.size, (m + t) * 3 + 1, none⟩ (.string (M t).2.1)).setCell ⟨W3.heap.size, (m + t) * 3 + 2, none⟩ (.int .i64 (M t).2.2)) W3.heap.size n (m + t + 1) (rotM M n k)) := by
            have := hM.store (by omega : m + t < n)
            rw [er] at this
            exact this
          have Y : Aside (Below W3.heap.size W3 (((wr.setCell ⟨W3.heap.size, (m + t) * 3, none⟩ (.string (M t).1)).setCell ⟨W3.heap.size, (m + t) * 3 + 1, none⟩ (.string (M t).2.1)).setCell ⟨W3.heap.size, (m + t) * 3 + 2, none⟩ (.int .i64 (M t).2.2))) := ((hB.setCell (Nat.le_refl _) _).setCell (Nat.le_refl _) _).setCell (Nat.le_refl _) _
          clear ck dk ek hM er
          generalize hq : m + t = q at r0 r1 r2 s0 s1 s2 X Y ⊢
          have hqi : (q : Int) < (n : Int) := by omega
          have hti : (t : Int) < (n : Int) := by omega
          have htk : (t : Int) < (k : Int) := by omega
          go_wp2
          go_roundw
          case rel => exact ⟨t + 1, by omega, by rw [← Nat.add_assoc, hq]; go_num, by go_num, by rw [← Nat.add_assoc, hq]; exact X.out, Y.out⟩
          case measure => simp [intOf]; omega
        · have e : t = k := by omega
          subst e
          rw [hm] at hM ⊢
          have hMr := hM.mems
          have hlr := hM.lt
          go_wp2_with fail
          refine (new9 sortSaid W3.heap.size 0 n _ (rotM M n t) _ hlr hn1 hn hMr).mono ?_
          rintro e W5 ⟨gb, capb, B, rfl, hpB, hsB, hmB', hlB, bl5⟩
          have hAB := sameAB HD.out (by omega) hpA.out hsA.out hpB hsB
          have hmB : Mems W5 gb 0 n A := fun j hj => by rw [← hAB j hj]; exact hmB' j hj
          rw [e0]
          have bl35 : Below W3.heap.size W3 W5 := hB.trans (bl5.mono hB.size)
          have hXa := hX3.out.below bl35
          obtain ⟨va0, va1, va2, va3, vaL⟩ := hXa
          have hmM5 := hmM3.out.below bl35 hbW3
          have hmA5 := hmA3.out.below bl35 hlA3
          have hbW5 := Nat.lt_of_lt_of_le hbW3 bl35.size
          have hlA5 := Nat.lt_of_lt_of_le hlA3 bl35.size
          have blw5 := blw3.trans (bl35.mono blw3.size)
          clear hmM3 hmA3 hX3 hbW3 hlA3 blw3 bl35 hAB hpB hsB hmB' hM hMr hlr hB bl5 hR hm hmn e0
          generalize W3.heap.size = g3 at ⊢
          go_wp2_with fail
          have bl6 : Below W5.heap.size W5 (W5.alloc (memObj (M t).1 gb n capb)) := (Below.refl _ _).alloc (Nat.le_refl _) _
          have hXb := Holds.new W5 (M t).1 gb n capb
          have hXa := (Holds.mk va0 va1 va2 va3 vaL).below bl6
          have hmM6 := hmM5.below bl6 hbW5
          have hmA6 := hmA5.below bl6 hlA5
          have hmB6 := hmB.below bl6 hlB
          have hbW6 := Nat.lt_of_lt_of_le hbW5 bl6.size
          have hlA6 := Nat.lt_of_lt_of_le hlA5 bl6.size
          have hlB6 := Nat.lt_of_lt_of_le hlB bl6.size
          have blw6 := blw5.trans (bl6.mono blw5.size)
          unfold memObj at hXb hXa hmM6 hmA6 hmB6 hbW6 hlA6 hlB6 blw6
          clear va0 va1 va2 va3 vaL bl6 hmM5 hmA5 hbW5 hlA5 blw5 hmB hlB
          generalize W5.alloc (.cells #[.int .u64 1, .string (M t).1, .slice (some ⟨gb, 0, none⟩) n capb, .slice none 0 0] 29) = W6 at hXb hXa hmM6 hmA6 hmB6 hbW6 hlA6 hlB6 blw6 ⊢
          generalize W5.heap.size = Vb at hXb ⊢
          obtain ⟨x0, x1, x2, x3, xL⟩ := hXa
          obtain ⟨y0, y1, y2, y3, yL⟩ := hXb
          obtain ⟨a0, _, _⟩ := hmM6 0 (by omega)
          rw [Nat.zero_mul, Nat.add_zero] at a0
          obtain ⟨a0t, _, _⟩ := hmM6 t (by omega)
          have HM6 : Aside (Mems W6 b off n M) := hmM6
          have HA6 : Aside (Mems W6 ga 0 n A) := hmA6
          have HB6 : Aside (Mems W6 gb 0 n A) := hmB6
          clear hmM6 hmA6 hmB6
          go_quiet (fail)
          go_wp2_with fail
          refine (same11 ga 0 n _ gb 0 _ A (W6.drewN nq) hn HA6.out HB6.out).mono ?_
          rintro e w' ⟨rfl, d2, rfl⟩
          have bl7 : Below W6.heap.size W6 ((W6.drewN nq).drewN d2) := Go.below_drewN (Go.below_drewN (Below.refl _ _) _) _
          have hmM7 := HM6.out.below bl7 hbW6
          have hmA7 := HA6.out.below bl7 hlA6
          have z2 := (bl7.cell (p := ⟨Va, 2, none⟩) xL).trans x2
          have zL := Nat.lt_of_lt_of_le xL bl7.size
          have hbW7 := Nat.lt_of_lt_of_le hbW6 bl7.size
          have hlA7 := Nat.lt_of_lt_of_le hlA6 bl7.size
          have blw7 := blw6.trans (bl7.mono blw6.size)
          obtain ⟨a0', _, _⟩ := hmM7 0 (by omega)
          rw [Nat.zero_mul, Nat.add_zero] at a0'
          clear HM6 HA6 HB6 bl7 x0 x1 x2 x3 xL y0 y1 y2 y3 yL a0 a0t hbW6 hlA6 hlB6 blw6
          generalize (W6.drewN nq).drewN d2 = W7 at hmM7 hmA7 z2 zL hbW7 hlA7 blw7 a0' ⊢
          have HM7 : Aside (Mems W7 b off n M) := hmM7
          have HA7 : Aside (Mems W7 ga 0 n A) := hmA7
          clear hmM7 hmA7
          go_wp2
          go_loopw [12, 13] (fun l v wi => ∃ (i : Nat) (x : ByteArray), 1 ≤ i ∧ i ≤ n ∧ v = .int .i64 i ∧ l = .string x ∧ Least M i x ∧ wi = W7) (fun _ v _ => n - (intOf v).toNat)
          case atStart => exact ⟨1, _, Nat.le_refl _, hn1, rfl, rfl, least_zero M, rfl⟩
          case round =>
            obtain ⟨i, x, hi1, hin, rfl, rfl, hl, rfl⟩ := hrel
            have HL : Aside (Least M i x) := hl
            clear hl
            by_cases hlt : i < n
            · obtain ⟨c0, _, _⟩ := HM7.out i hlt
              have hii : (i : Int) < (n : Int) := by omega
              clear z2 a0'
              cases hless : lessB (M i).1 x
              · have hk := least_keep HL.out hless
                have hb' : Op.bytesLess (M i).1.toList x.toList = false := hless
                clear hless
                go_wp2
                go_roundw
                case rel => exact ⟨i + 1, x, by omega, by omega, by go_num, rfl, hk, trivial⟩
                case measure => simp [intOf]; omega
              · have hk := least_take HL.out hless
                have hb' : Op.bytesLess (M i).1.toList x.toList = true := hless
                clear hless
                go_wp2
                go_roundw
                case rel => exact ⟨i + 1, _, by omega, by omega, by go_num, rfl, hk, trivial⟩
                case measure => simp [intOf]; omega
            · have e : i = n := by omega
              subst e
              have hx := leastA hn1 hpA.out hsA.out HL.out
              go_wp2_with fail
              refine (new9 sortSaid ga 0 i _ A _ hlA7 hn1 hn HA7.out).mono ?_
              rintro e W8 ⟨gd, capd, C, rfl, hpC, hsC, hmC', hlC, bl8⟩
              have hAC := sameAC HD.out hpA.out hsA.out hpC hsC
              have hmC : Mems W8 gd 0 i A := fun j hj => by rw [← hAC j hj]; exact hmC' j hj
              rw [hx]
              have hmA8 := HA7.out.below bl8 hlA7
              have z2' := (bl8.cell (p := ⟨Va, 2, none⟩) zL).trans z2
              have zL' := Nat.lt_of_lt_of_le zL bl8.size
              have hlA8 := Nat.lt_of_lt_of_le hlA7 bl8.size
              have blw8 := blw7.trans (bl8.mono blw7.size)
              clear hAC hpC hsC hmC' bl8 HA7 HM7 z2 zL hlA7 hbW7 blw7 a0' hx HL
              go_wp2_with fail
              have bl9 : Below W8.heap.size W8 (W8.alloc (memObj x gd i capd)) := (Below.refl _ _).alloc (Nat.le_refl _) _
              have hmA9 := hmA8.below bl9 hlA8
              have hmC9 := hmC.below bl9 hlC
              refine (same11 gd 0 i _ ga 0 _ A _ hn hmC9 hmA9).mono ?_
              rintro e w' ⟨rfl, d3, rfl⟩
              go_wp2
              go_ret
              exact ⟨rfl, Go.below_drewN (blw8.trans (bl9.mono blw8.size)) _⟩
end Go.Proofs.Qxb6630826a
