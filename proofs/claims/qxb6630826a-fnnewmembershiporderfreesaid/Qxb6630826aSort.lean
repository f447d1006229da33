import Derived.Test.Qxb6630826aLaid
import Derived.Test.Qxb6630826aNewB
namespace Go.Proofs.Qxb6630826a
open Go.Shelf Go.RowKit Go.Sort
set_option linter.unusedVariables false

theorem ltOf_cmpB (x y : ByteArray × ByteArray × Int) : ltOf (fun x y : ByteArray × ByteArray × Int => cmpB x.1 y.1) x y = ltM x y := by
  show decide ((if lessB x.1 y.1 = true then (-1 : Int) else if x.1.toList == y.1.toList then 0 else 1) < 0) = lessB x.1 y.1
  by_cases h : lessB x.1 y.1 = true
  · rw [if_pos h, h]; rfl
  · rw [if_neg h]
    have h' : lessB x.1 y.1 = false := by simpa using h
    rw [h']
    by_cases h2 : (x.1.toList == y.1.toList) = true
    · rw [if_pos h2]; rfl
    · rw [if_neg h2]; rfl

theorem swoM : SWO (ltOf fun x y : ByteArray × ByteArray × Int => cmpB x.1 y.1) where
  irrefl x := by rw [ltOf_cmpB]; exact Plain.bl_irrefl _
  trans x y z h1 h2 := by rw [ltOf_cmpB] at *; exact Plain.bl_trans _ _ _ h1 h2
  ntrans x y z h1 h2 := by rw [ltOf_cmpB] at *; exact Plain.bl_ntrans _ _ _ h1 h2

theorem cmpLays14 (blk off size : Nat) (w : World) : CmpLays Try.prog 14 #[] enc 3 (fun x y => cmpB x.1 y.1) blk off size w :=
  fun _ _ _ _ x y => compare14 x y _

theorem grownBy_sortM (w : World) (blk m : Nat) (dk : Array (ByteArray × ByteArray × Int)) (os : Array Obj) : w.grownBy (sortWorldK enc 3 w blk 0 m dk os) (some blk) := by
  refine ⟨rfl, rfl, rfl, size_sortWorldK_c enc 3 w blk 0 m dk os, fun k hk hne => ?_⟩
  unfold sortWorldK
  rw [heap_grow_old _ _ (by rw [size_putRowK]; exact hk)]
  have hkb : blk ≠ k := fun e => hne (by rw [e])
  show ((Go.Sort.ahead w m).heap.modify blk _)[k]? = _
  rw [Array.getElem?_modify, if_neg hkb]
  rfl

theorem holdsM {w : World} {blk n : Nat} {M : Nat → ByteArray × ByteArray × Int} (hM : Mems w blk 0 n M) (hf : ∀ t, t < n * 3 → w.frozen? ⟨blk, t, none⟩ = false) : HoldsK enc 3 w blk 0 (Plain.tab M n).toArray := by
  have hs : (Plain.tab M n).toArray.size = n := by simp [Plain.tab]
  intro t ht
  rw [size_flatK, hs] at ht
  rw [get_flatK enc 3 _ t (by rw [hs]; exact ht), Nat.zero_add]
  refine ⟨?_, hf t ht⟩
  have hj : t / 3 < n := by omega
  have e : (Plain.tab M n).toArray[t / 3]! = M (t / 3) := by
    rw [getElem!_pos _ _ (by rw [hs]; exact hj)]
    simp [Plain.tab]
  rw [e]
  obtain ⟨h1, h2, h3⟩ := hM (t / 3) hj
  rw [Nat.zero_add] at h1 h2 h3
  have ht3 : t = t / 3 * 3 + t % 3 := by omega
  have hm : t % 3 = 0 ∨ t % 3 = 1 ∨ t % 3 = 2 := by omega
  rcases hm with hm | hm | hm
  · rw [hm] at ht3 ⊢
    have : (⟨blk, t, none⟩ : Addr) = ⟨blk, t / 3 * 3, none⟩ := by rw [Nat.add_zero] at ht3; rw [← ht3]
    rw [this, h1]; rfl
  · rw [hm] at ht3 ⊢
    have : (⟨blk, t, none⟩ : Addr) = ⟨blk, t / 3 * 3 + 1, none⟩ := by rw [← ht3]
    rw [this, h2]; rfl
  · rw [hm] at ht3 ⊢
    have : (⟨blk, t, none⟩ : Addr) = ⟨blk, t / 3 * 3 + 2, none⟩ := by rw [← ht3]
    rw [this, h3]; rfl

/-- What the sort leaves, in this seat's words. -/
theorem sortSaid : SortSaid := by
  intro blk cap n M w hM hf hblk hn
  have hs : (Plain.tab M n).toArray.size = n := by simp [Plain.tab]
  have eg : ∀ args w, (callFunc 14 args).run Try.prog w = .ok (.enter 14 args) w := enters_of Try.func14 (by kernel_rfl) rfl
  have hH := holdsM hM hf
  have hcon := AnyQ.slices_SortFunc sortM 3 Try.isAgg34 Try.sizeOf34 enc (fun _ => rfl) (fun x v hv => by simp [enc] at hv; rcases hv with rfl | rfl | rfl <;> rfl) (fun x y => cmpB x.1 y.1) swoM 14 #[] blk 0 cap (Plain.tab M n).toArray w eg (cmpLays14 blk 0 _ w) hH hblk (by rw [hs]; omega)
  change Calls Try.prog 13 _ _ _ at hcon
  rw [hs] at hcon
  refine hcon.mono ?_
  rintro e w' ⟨rfl, d', m, os, hp, hsrt, rfl⟩
  have hd' : d'.size = n := by rw [hp.1, hs]
  have et : Plain.tab (fun j => d'[j]!) n = d'.toList := by
    apply List.ext_getElem?
    intro j
    by_cases hj : j < n
    · rw [Plain.tab_get _ _ _ hj, getElem!_pos d' j (by omega)]
      simp [hd', hj]
    · rw [List.getElem?_eq_none (by rw [Plain.tab_length]; omega), List.getElem?_eq_none (by simp; omega)]
  refine ⟨rfl, fun j => d'[j]!, ?_, ?_, ?_, grownBy_sortM w blk m d' os⟩
  · rw [et]
    have h := hp.2.2
    have e1 : d'.extract 0 n = d' := by rw [← hd']; simp
    have e2 : (Plain.tab M n).toArray.extract 0 n = (Plain.tab M n).toArray := by
      have h3 : ∀ a : Array (ByteArray × ByteArray × Int), a.size = n → a.extract 0 n = a := fun a ha => by rw [← ha]; simp
      exact h3 _ hs
    rw [e1, e2] at h
    simpa using h
  · intro i j x y hij hx hy
    have hj : j < n := by
      rcases Nat.lt_or_ge j n with h | h
      · exact h
      · rw [List.getElem?_eq_none (by rw [Plain.tab_length]; exact h)] at hy; cases hy
    rw [Plain.tab_get _ _ _ (by omega)] at hx
    rw [Plain.tab_get _ _ _ hj] at hy
    injection hx with hx
    injection hy with hy
    rw [← hx, ← hy, ← ltOf_cmpB]
    exact hsrt i j (Nat.zero_le _) hij hj
  · have hK := holdsK_sortWorldK_c enc 3 w blk 0 _ d' m os hH hblk (by rw [hd', hs])
    intro j hj
    have k0 := (hK.cell (i := j) (c := 0) (by omega) (by omega)).1
    have k1 := (hK.cell (i := j) (c := 1) (by omega) (by omega)).1
    have k2 := (hK.cell (i := j) (c := 2) (by omega) (by omega)).1
    exact ⟨k0, k1, k2⟩
#print axioms sortSaid
end Go.Proofs.Qxb6630826a
