import Derived.Test.Qxb6630730aScan
namespace Go.Proofs.Qxb6630730a
open Go.RowKit

theorem info26 : (Try.prog.info? 26).map (fun i => (i.zero, i.size, i.bytes)) = some (some (.int .u64 0), 1, 8) := by kernel_rfl

theorem one_u64 (y : Int) : ∀ u ∈ [Value.int .u64 y], u.oneCell' = true := by intro u hu; simp at hu; subst hu; rfl

set_option maxHeartbeats 1600000 in
set_option maxRecDepth 100000 in
/-- zzIDs: a new slice that holds what was gathered. -/
theorem ids8 (a : Option Addr) (b off n c start stop : Nat) (skip : Int) (zs : List Int) (w : World) (ha : 0 < n → a = some ⟨b, off, none⟩) (hn : n ≤ 65536) (hb : 0 < n → b < w.heap.size)
    (hst : start ≤ stop) (hsn : stop ≤ n)
    (hc : ∀ j, j < n → w.cell? ⟨b, off + j, none⟩ = some (.int .u64 (zs.getD j 0))) :
    Calls Try.prog 8 #[.slice a n c, .int .i64 start, .int .i64 stop, .int .i64 skip] w fun e w' =>
      e = .returned (.slice (some ⟨w.heap.size, 0, none⟩) (Plain.gather zs start skip (stop - start)).length (stop - start)) ∧
        w'.ownsRow w.heap.size 26 1 (.slice (some ⟨w.heap.size, 0, none⟩) (Plain.gather zs start skip (stop - start)).length (stop - start)) (Plain.gather zs start skip (stop - start)).length ((Plain.gather zs start skip (stop - start)).map (Value.int .u64)) ∧
        Below w.heap.size w w' ∧ w.heap.size < w'.heap.size := by
  obtain ⟨i0, hi, hz0, hz1, hz2⟩ := info_parts info26
  have HA : Aside (0 < n → a = some ⟨b, off, none⟩) := ha
  have HC : Aside (∀ j, j < n → w.cell? ⟨b, off + j, none⟩ = some (.int .u64 (zs.getD j 0))) := hc
  have HB : Aside (0 < n → b < w.heap.size) := hb
  clear ha hc hb
  go_enter Try.func8, Try.ntmps8
  go_wp2_with (at_make; refine wpList_make_own _ rfl _ _ 27 rfl w.heap.size 26 i0 (.int .u64 0) 1 Try.underlying27 hi hz0 hz1 _ _ _ (stop - start) rfl rfl (by omega) (by rw [hz2]; omega) (by unfold maxLen; omega) (Nat.le_refl _) ?_; intro w1 hown hgrow)
  have B1 : Below w.heap.size w w1 := (Below.refl _ _).grown hgrow (Nat.le_refl _) (fun j hj => by cases hj)
  have S1 : w.heap.size < w1.heap.size := (hown.lt _ rfl).2
  clear hgrow
  go_loopw [9, 10] (fun v i wr => ∃ p : Nat, start ≤ p ∧ p ≤ stop ∧ i = .int .i64 p ∧ v = .slice (some ⟨w.heap.size, 0, none⟩) (Plain.gather zs start skip (p - start)).length (stop - start) ∧
      Aside (wr.ownsRow w.heap.size 26 1 (.slice (some ⟨w.heap.size, 0, none⟩) (Plain.gather zs start skip (p - start)).length (stop - start)) (Plain.gather zs start skip (p - start)).length ((Plain.gather zs start skip (p - start)).map (Value.int .u64))) ∧ Below w.heap.size w wr ∧ w.heap.size < wr.heap.size)
    (fun _ i _ => stop - (intOf i).toNat)
  case atStart => exact ⟨start, Nat.le_refl _, hst, rfl, by rw [Nat.sub_self]; rfl, by rw [Nat.sub_self]; exact hown, B1, S1⟩
  case round =>
    obtain ⟨p, hp1, hp2, rfl, rfl, hown2, hbel, hsz⟩ := hrel
    have hgl := Plain.gather_le zs start skip (p - start)
    by_cases hlt : p < stop
    · have ha := HA.out (by omega)
      have hb := HB.out (by omega)
      subst ha
      have ck : wr.cell? ⟨b, off + p, none⟩ = some (.int .u64 (zs.getD p 0)) := (hbel.cell (p := ⟨b, off + p, none⟩) hb).trans (HC.out p (by omega))
      have hpn : (p : Int) < (n : Int) := by omega
      have hG : Aside (Plain.gather zs start skip (p + 1 - start) = if (p : Int) = skip then Plain.gather zs start skip (p - start) else Plain.gather zs start skip (p - start) ++ [zs.getD p 0]) := by
        have e : p + 1 - start = (p - start) + 1 := by omega
        show Plain.gather zs start skip (p + 1 - start) = _
        rw [e]
        simp only [Plain.gather]
        rw [show start + (p - start) = p from by omega]
      generalize zs.getD p 0 = y at ck hG
      generalize Plain.gather zs start skip (p - start) = G at hown2 hgl hG
      by_cases hs : (p : Int) = skip
      · have hs' : ((p : Int) == skip) = true := beq_iff_eq.2 hs
        have HS : Aside ((p : Int) = skip) := hs
        clear hs
        go_wp2
        go_roundw
        case rel =>
          have e := hG.out
          rw [if_pos HS.out] at e
          refine ⟨p + 1, by omega, by omega, by go_num, by rw [e], by rw [e]; exact hown2, hbel, hsz⟩
        case measure => simp [intOf]; omega
      · have hs' : ((p : Int) == skip) = false := beq_eq_false_iff_ne.2 hs
        go_wp2_with (at_builtin; refine wpList_append_fits _ rfl _ _ 27 rfl w.heap.size 26 i0 1 Try.underlying27 hi hz1 w.heap.size _ _ _ rfl (hown2.out.alloc _) ⟨wr.heap.size, 0, none⟩ 1 1 [.int .u64 y] rfl rfl (cell_one_new _ _ _) (one_u64 _) (by omega) ?_)
        intro w2 hown3 hgrow3
        have B2 : Below w.heap.size w w2 := (hbel.alloc (by omega) _).grown hgrow3 (by simp; omega) (fun j hj => by cases hj; exact Nat.le_refl _)
        have S2 : w.heap.size < w2.heap.size := (hown3.lt _ rfl).2
        have O3 : Aside (w2.ownsRow w.heap.size 26 1 (.slice (some ⟨w.heap.size, 0, none⟩) (G.length + 1) (stop - start)) (G.length + 1) (G.map (Value.int .u64) ++ [.int .u64 y])) := hown3
        clear hgrow3 hown3
        go_wp2
        go_roundw
        case rel =>
          have e := hG.out
          rw [if_neg hs] at e
          refine ⟨p + 1, by omega, by omega, by go_num, by rw [e]; simp, ?_, B2, S2⟩
          rw [e]
          unfold Aside
          simpa using O3.out
        case measure => simp [intOf]; omega
    · have e : p = stop := by omega
      subst e
      have O := hown2.out
      clear hown2
      go_wp2
      go_ret
      exact ⟨rfl, O, hbel, hsz⟩
end Go.Proofs.Qxb6630730a
