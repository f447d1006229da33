import Derived.Test.Qxb6630730aShared
namespace Go.Proofs.Qxb6630730a
open Go.RowKit

set_option maxHeartbeats 2000000 in
set_option maxRecDepth 100000 in
theorem after4 (c : Int) (b off n cap : Nat) (zs : List Int) (next : Int) (u : Bool) (k : Nat) (x : Int) (w : World) (hn : n ≤ 65536) (hb : b < w.heap.size) (hk : k < n)
    (hc : RowAt w b off n zs) (hok : Plain.okTo zs next n) :
    Calls Try.prog 4 #[.int .u64 c, .slice (some ⟨b, off, none⟩) n cap, .int .u64 next, .bool u, .int .i64 k, .int .u64 x] w fun e w' => e = .returned (.bool true) ∧ Below w.heap.size w w' := by
  have HO : Aside (Plain.okTo zs next n) := hok
  have ck := hc k hk
  generalize hy : zs.getD k 0 = y at ck
  have Y : Aside (zs.getD k 0 = y) := hy
  obtain ⟨G1, hG1⟩ : ∃ G, Plain.gather zs 0 (-1) n = G := ⟨_, rfl⟩
  obtain ⟨G2, hG2⟩ : ∃ G, Plain.gather zs 0 (k : Int) n = G := ⟨_, rfl⟩
  obtain ⟨L1, hL1⟩ : ∃ L, Plain.lowOf G1 next = L := ⟨_, rfl⟩
  obtain ⟨L2, hL2⟩ : ∃ L, Plain.lowOf G2 next = L := ⟨_, rfl⟩
  have l1 : G1.length ≤ 65536 := by rw [← hG1]; exact Nat.le_trans (Plain.gather_le _ _ _ _) hn
  have l2 : G2.length ≤ 65536 := by rw [← hG2]; exact Nat.le_trans (Plain.gather_le _ _ _ _) hn
  have HG1 : Aside (Plain.gather zs 0 (-1) n = G1) := hG1
  have HG2 : Aside (Plain.gather zs 0 (k : Int) n = G2) := hG2
  have HL1 : Aside (Plain.lowOf G1 next = L1) := hL1
  have HL2 : Aside (Plain.lowOf G2 next = L2) := hL2
  have p1 : G1.Pairwise (· < ·) := by rw [← hG1]; exact Plain.gather_sorted hok 0 (-1) n (by omega)
  have p2 : G2.Pairwise (· < ·) := by rw [← hG2]; exact Plain.gather_sorted hok 0 (k : Int) n (by omega)
  obtain ⟨r1, hr1⟩ : ∃ r, Plain.sees c G1 L1 next u x = r := ⟨_, rfl⟩
  have hv1 : Plain.view zs 0 (-1) n c next u x = r1 := by unfold Plain.view; rw [hG1, hL1, hr1]
  have hr2 : Plain.sees c G2 L2 next u x = (r1 || (x == y)) := by
    have := Plain.after_one hok hk c u x
    rw [hv1, hy] at this
    rw [← this]; unfold Plain.view; rw [hG2, hL2]
  have hr3 : Plain.sees c G2 L2 next u y = true := by
    have := Plain.after_two hok hk c u
    rw [hy] at this
    rw [← this]; unfold Plain.view; rw [hG2, hL2]
  have hr4 : Plain.sees c G1 L1 next u y = (u || (y == c)) := by
    have := Plain.after_three hok hk c u
    rw [hy] at this
    rw [← this]; unfold Plain.view; rw [hG1, hL1]
  have R1 : Aside (Plain.sees c G1 L1 next u x = r1) := hr1
  have R2 : Aside (Plain.sees c G2 L2 next u x = (r1 || (x == y))) := hr2
  have R3 : Aside (Plain.sees c G2 L2 next u y = true) := hr3
  have R4 : Aside (Plain.sees c G1 L1 next u y = (u || (y == c))) := hr4
  have P1 : Aside (G1.Pairwise (· < ·)) := p1
  have P2 : Aside (G2.Pairwise (· < ·)) := p2
  clear hok hy hG1 hG2 hL1 hL2 hr1 hr2 hr3 hr4 hv1 p1 p2
  have mixed : Try.prog.follows .mixedOrders = true := by kernel_rfl
  have k0 : ¬ (k : Int) < 0 := by omega
  have k1 : (k : Int) < (n : Int) := by omega
  go_enter Try.func4, Try.ntmps4
  go_wp2_with fail
  refine (bytes11_any _ _ _ _ _ _ _ _ _ (by unfold maxLen; omega)).mono ?_
  rintro e w ⟨rfl, rfl⟩
  rw [decide_eq_true (show n ≤ 1048576 by omega)]
  go_wp2_with fail
  refine (sorted6 true _ b off _ _ zs _ _ (fun _ => rfl) hn (by exact hc) ⟨fun _ => HO.out, fun _ => rfl⟩).mono ?_
  rintro e w' ⟨rfl, q, rfl⟩
  go_wp2_with fail
  refine (ids8i _ b off _ _ 0 n n _ _ _ zs G1 _ (by rfl) (by rfl) (by rfl) HG1.out (fun _ => rfl) hn (fun _ => by exact hb) (Nat.zero_le _) (Nat.le_refl _) (by exact hc)).mono ?_
  rintro e w1 ⟨rfl, I1, B1, S1⟩
  go_wp2_with fail
  refine (view7i _ _ _ G1 _ L1 _ _ HL1.out l1 (by exact S1) (by exact I1)).mono ?_
  rintro e w2 ⟨rfl, B2⟩
  go_wp2_with fail
  have s1 : w.heap.size < w1.heap.size := S1
  have s2 : w1.heap.size ≤ w2.heap.size := B2.size
  have rw2 : RowAt w2 b off n zs := (RowAt.below (W := w.drewN q) hc B1 hb).below B2 (by omega)
  have i2 : IdsAt w2 w.heap.size G1 := IdsAt.below I1 B2 s1
  have bl2 : Below w.heap.size w w2 := ((below_grow w.heap.size w (Nat.le_refl _) q #[]).trans (by simpa using B1)).trans (B2.mono (by omega))
  clear I1 B1 S1 B2
  refine (ids8i _ b off _ _ 0 n n _ _ _ zs G2 _ (by rfl) (by rfl) (by rfl) HG2.out (fun _ => rfl) hn (fun _ => by simp; omega) (Nat.zero_le _) (Nat.le_refl _) (by exact rw2.below ((Below.refl _ _).alloc (Nat.le_refl _) _) (by omega))).mono ?_
  rintro e w3 ⟨rfl, I3, B3, S3⟩
  go_wp2_with fail
  refine (view7i _ _ _ G2 _ L2 _ _ HL2.out l2 (by simpa using S3) (by simpa using I3)).mono ?_
  rintro e w4 ⟨rfl, B4⟩
  go_wp2_with fail
  have s3 : w2.heap.size + 1 < w3.heap.size := by simpa using S3
  have s4 : w3.heap.size ≤ w4.heap.size := B4.size
  have i4 : IdsAt w4 w.heap.size G1 := ((i2.below ((Below.refl _ _).alloc (Nat.le_refl _) _) (by omega)).below B3 (by simp; omega)).below B4 (by omega)
  have j4 : IdsAt w4 (w2.heap.size + 1) G2 := by
    have h := IdsAt.below I3 B4 (by simpa using S3)
    simpa using h
  have v4 : ViewAt w4 w2.heap.size w.heap.size n G1 c L1 next u := ((ViewAt.new w2 w.heap.size n G1 c L1 next u).below B3 (by simp)).below B4 (by omega)
  have bl4 : Below w.heap.size w w4 := ((bl2.alloc (by omega) _).trans (B3.mono (by simp; omega))).trans (B4.mono (by omega))
  clear I3 B3 S3 B4 i2 bl2 rw2
  have i5 := i4.below ((Below.refl w4.heap.size w4).alloc (Nat.le_refl _) (.cells #[.int .u64 c, .slice (some ⟨w2.heap.size + 1, 0, none⟩) G2.length n, .int .u64 L2, .int .u64 next, .bool u] 29)) (by omega)
  have j5 := j4.below ((Below.refl w4.heap.size w4).alloc (Nat.le_refl _) (.cells #[.int .u64 c, .slice (some ⟨w2.heap.size + 1, 0, none⟩) G2.length n, .int .u64 L2, .int .u64 next, .bool u] 29)) (by omega)
  have v5 := v4.below ((Below.refl w4.heap.size w4).alloc (Nat.le_refl _) (.cells #[.int .u64 c, .slice (some ⟨w2.heap.size + 1, 0, none⟩) G2.length n, .int .u64 L2, .int .u64 next, .bool u] 29)) (by omega)
  have u5 := ViewAt.new w4 (w2.heap.size + 1) n G2 c L2 next u
  have bl5 : Below w.heap.size w (w4.alloc (.cells #[.int .u64 c, .slice (some ⟨w2.heap.size + 1, 0, none⟩) G2.length n, .int .u64 L2, .int .u64 next, .bool u] 29)) := bl4.alloc (by omega) _
  have z5 : (w4.alloc (.cells #[.int .u64 c, .slice (some ⟨w2.heap.size + 1, 0, none⟩) G2.length n, .int .u64 L2, .int .u64 next, .bool u] 29)).heap.size = w4.heap.size + 1 := by simp
  have t1 : w.heap.size < w4.heap.size + 1 := by omega
  have t2 : w2.heap.size + 1 < w4.heap.size + 1 := by omega
  have t3 : w2.heap.size < w4.heap.size + 1 := by omega
  have t4 : w4.heap.size < w4.heap.size + 1 := by omega
  rw [← z5] at t1 t2 t3 t4
  clear z5 i4 j4 v4 bl4 s1 s2 s3 s4 hc ck
  generalize w4.alloc (.cells #[.int .u64 c, .slice (some ⟨w2.heap.size + 1, 0, none⟩) G2.length n, .int .u64 L2, .int .u64 next, .bool u] 29) = W at i5 j5 v5 u5 bl5 t1 t2 t3 t4 ⊢
  generalize w4.heap.size = V2 at u5 t4 ⊢
  generalize w2.heap.size + 1 = g2 at u5 j5 t2 ⊢
  generalize w2.heap.size = V1 at v5 t3 ⊢
  have C1 : Aside (∀ n1 os, Calls Try.prog 9 #[.agg #[.int .u64 c, .slice (some ⟨w.heap.size, 0, none⟩) G1.length n, .int .u64 L1, .int .u64 next, .bool u], .int .u64 x] (Sort.grow (W.drewN n1) os) fun e w'' => e = .returned (.bool r1) ∧ ∃ p : GrownBy, w'' = Sort.grow (W.drewN p.n) p.os) :=
    fun n1 os => sees9g c L1 next x u _ w.heap.size n G1 W l1 t1 i5 P1.out R1.out n1 os
  have C2 : Aside (∀ n1 os, Calls Try.prog 9 #[.agg #[.int .u64 c, .slice (some ⟨g2, 0, none⟩) G2.length n, .int .u64 L2, .int .u64 next, .bool u], .int .u64 x] (Sort.grow (W.drewN n1) os) fun e w'' => e = .returned (.bool (r1 || (x == y))) ∧ ∃ p : GrownBy, w'' = Sort.grow (W.drewN p.n) p.os) :=
    fun n1 os => sees9g c L2 next x u _ g2 n G2 W l2 t2 j5 P2.out R2.out n1 os
  have C3 : Aside (∀ n1 os, Calls Try.prog 9 #[.agg #[.int .u64 c, .slice (some ⟨g2, 0, none⟩) G2.length n, .int .u64 L2, .int .u64 next, .bool u], .int .u64 y] (Sort.grow (W.drewN n1) os) fun e w'' => e = .returned (.bool true) ∧ ∃ p : GrownBy, w'' = Sort.grow (W.drewN p.n) p.os) :=
    fun n1 os => sees9g c L2 next y u _ g2 n G2 W l2 t2 j5 P2.out R3.out n1 os
  have C4 : Aside (∀ n1 os, Calls Try.prog 9 #[.agg #[.int .u64 c, .slice (some ⟨w.heap.size, 0, none⟩) G1.length n, .int .u64 L1, .int .u64 next, .bool u], .int .u64 y] (Sort.grow (W.drewN n1) os) fun e w'' => e = .returned (.bool (u || (y == c))) ∧ ∃ p : GrownBy, w'' = Sort.grow (W.drewN p.n) p.os) :=
    fun n1 os => sees9g c L1 next y u _ w.heap.size n G1 W l1 t1 i5 P1.out R4.out n1 os
  have a0 := fun n os => (v5.grown t3 n os).h0
  have a1 := fun n os => (v5.grown t3 n os).h1
  have a2 := fun n os => (v5.grown t3 n os).h2
  have a3 := fun n os => (v5.grown t3 n os).h3
  have a4 := fun n os => (v5.grown t3 n os).h4
  have b0 := fun n os => (u5.grown t4 n os).h0
  have b1 := fun n os => (u5.grown t4 n os).h1
  have b2 := fun n os => (u5.grown t4 n os).h2
  have b3 := fun n os => (u5.grown t4 n os).h3
  have b4 := fun n os => (u5.grown t4 n os).h4
  clear v5 u5 i5 j5 R1 R2 R3 R4 P1 P2 HG1 HG2 HL1 HL2 HO Y t1 t2 t3 t4
  have Bl : Aside (∀ n1 os, Below w.heap.size w (Sort.grow (W.drewN n1) os)) := fun n1 os => bl5.trans (below_grow _ _ bl5.size n1 os)
  clear bl5
  cases r1
  all_goals
    simp only [Bool.false_or, Bool.true_or] at C2
    go_quiet_grown (first | (go_at_call_of 9 (Value.slice (some ⟨g2, 0, none⟩) G2.length n); exact C2.out _ _) | (go_at_call_of 9 (Value.slice (some ⟨w.heap.size, 0, none⟩) G1.length n); exact C1.out _ _))
    go_wp2_with fail
    refine (C3.out _ _).mono ?_
    rintro e w6 ⟨rfl, ⟨n6, os6⟩, rfl⟩
    go_wp2_with fail
    refine (C4.out _ _).mono ?_
    rintro e w7 ⟨rfl, ⟨n7, os7⟩, rfl⟩
    cases u
    all_goals
      go_wp2
      go_ret
      exact ⟨rfl, Bl.out _ _⟩
end Go.Proofs.Qxb6630730a
