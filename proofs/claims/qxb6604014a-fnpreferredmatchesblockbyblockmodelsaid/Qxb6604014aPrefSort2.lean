/-
  slices.Sort (38) at a row of the call's own, in the words of PrefSort; a call that writes one row of its own, seen from outside. Seat b6604014a.
-/
import Derived.Test.Qxb6604014aShelf
import Derived.Test.Qxb6604014aPrefSort
import Derived.Sort.OwnSortedInts
namespace Go.Proofs.Qxb6604014a
open Go.RowKit Go.Sort
set_option linter.unusedVariables false

theorem getD_lt {l : List Int} {i : Nat} (h : i < l.length) : l.getD i 0 = l[i] := by simp [h]
theorem srt_length (l : List Int) : (srt l).length = l.length := by unfold srt; exact List.length_mergeSort _

theorem sort38 (g n c : Nat) (z : Nat → Int) (w : World) (hn : n ≤ 65536) (hrow : Hs w g n z) :
    Calls Try.prog 38 #[.slice (some ⟨g, 0, none⟩) n c] w fun e w' => e = .returned (.tuple #[]) ∧ (∃ y, Hs w' g n y ∧ ls n y = srt (ls n z)) ∧ w.grownBy w' (some g) := by
  have hH : Holds (Value.int .i64) w g 0 (ls n z).toArray := by
    intro j hj
    have hj' : j < n := by simpa [ls_length] using hj
    have e : (ls n z).toArray[j]! = z j := by
      simp [hj', ls]
    rw [e, Nat.zero_add]
    exact hrow.2 j hj'
  have h := Try.slices_Sort_int g 0 c (ls n z) w hH hrow.1 (by rw [ls_length]; omega)
  rw [ls_length] at h
  refine h.mono ?_
  rintro e w' ⟨rfl, m, os, rfl⟩
  refine ⟨rfl, ⟨fun i => (srt (ls n z)).getD i 0, ?_, ?_⟩, grownBy_sortedI _⟩
  · have hs : ((ls n z).mergeSort fun x y => decide (x ≤ y)).toArray.size = (ls n z).toArray.size := by simp
    have h2 := holds_putRow (Value.int .i64) (Sort.ahead w m) g 0 (ls n z).toArray ((ls n z).mergeSort fun x y => decide (x ≤ y)).toArray (holds_ahead _ _ _ _ _ _ hH) hs
    refine ⟨by simp; have := hrow.1; show g < w.heap.size + _; omega, fun i hi => ?_⟩
    have hi' : i < ((ls n z).mergeSort fun x y => decide (x ≤ y)).toArray.size := by rw [hs]; simpa [ls_length] using hi
    obtain ⟨h3, h4⟩ := h2 i hi'
    rw [Nat.zero_add] at h3 h4
    have hb : g < (putRow (Value.int .i64) (Sort.ahead w m) g 0 ((ls n z).mergeSort fun x y => decide (x ≤ y)).toArray).heap.size := by rw [size_putRow]; exact hrow.1
    constructor
    · rw [cell?_grow _ _ _ hb, h3]
      have hl : i < (srt (ls n z)).length := by rw [srt_length, ls_length]; exact hi
      have e : ((ls n z).mergeSort fun x y => decide (x ≤ y)).toArray[i]! = (srt (ls n z)).getD i 0 := by
        show (srt (ls n z)).toArray[i]! = _
        simp [List.getD, hl]
      rw [e]
    · rw [World.frozen?_of_block (w := putRow (Value.int .i64) (Sort.ahead w m) g 0 ((ls n z).mergeSort fun x y => decide (x ≤ y)).toArray) (heap_grow_old _ _ hb)]
      exact h4
  · have hl : (srt (ls n z)).length = n := by rw [srt_length, ls_length]
    apply List.ext_getElem
    · rw [ls_length, hl]
    · intro i h1 h2
      have h3 : i < n := by rw [← hl]; exact h2
      have h4 := ls_get n (fun i => (srt (ls n z)).getD i 0) i h3
      rw [getD_lt h1, getD_lt h2] at h4
      exact h4
end Go.Proofs.Qxb6604014a
