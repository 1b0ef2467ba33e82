/-
  THE WALKS OF math/bits.Mul (41) at 1 and a small number, and of slices.Repeat (32) at a slice of the one number -1. Seat b6604014a.
-/
import Derived.Test.Qxb6604014aPrefCopy
import Derived.Laws.CopyOwn
import Derived.Laws.Bits64b
import Derived.Deep.RegionHeld3
namespace Go.Proofs.Qxb6604014a
open Go.RowKit
set_option linter.unusedVariables false

theorem and_mask (S : Nat) (h : S ≤ 65536) : bits .and .u64 (S : Int) 4294967295 = S := by
  have h1 := bits_and_u64_nat S 4294967295 (by omega) (by omega)
  have h2 : S &&& 4294967295 = S := by
    have := Nat.and_two_pow_sub_one_eq_mod S 32
    simp only [Nat.reducePow, Nat.reduceSub] at this
    rw [this]
    omega
  rw [h2] at h1
  exact h1
set_option maxHeartbeats 400000 in
theorem mul41 (S : Nat) (h : S ≤ 65536) (w : World) : Calls Try.prog 41 #[.int .u64 1, .int .u64 S] w fun e w' => e = .returned (.tuple #[.int .u64 0, .int .u64 S]) ∧ w = w' := by
  have hm := and_mask S h
  have h1 : bits .and .u64 1 4294967295 = 1 := and_mask 1 (by omega)
  have h0 : bits .and .u64 0 4294967295 = 0 := and_mask 0 (by omega)
  have hd : (S : Int) / 4294967296 = 0 := by omega
  go_enter Try.func41, Try.ntmps41
  go_wp2
  go_ret2
  exact ⟨rfl, rfl⟩

/-- The row behind k elements laid: k times -1, the rest 0. -/
def rep (k S : Nat) : List Value := List.replicate k (.int .i64 (-1)) ++ List.replicate (S - k) (.int .i64 0)
theorem rep_len (k S : Nat) (h : k ≤ S) : (rep k S).length = S := by unfold rep; simp; omega
theorem rep_get (k S j : Nat) (h : j < k) : (rep k S)[j]? = some (.int .i64 (-1)) := by unfold rep; simp [List.getElem?_append, h]
theorem rep_splice (k m S : Nat) (h : k + m ≤ S) : splice (rep k S) k (List.replicate m (.int .i64 (-1))) = rep (k + m) S := by
  unfold splice rep
  simp only [List.length_replicate]
  rw [List.take_append_of_le_length (by simp), List.take_of_length_le (by simp), ← List.append_assoc, List.replicate_append_replicate, List.drop_append, List.drop_of_length_le (by simp), List.length_replicate, List.drop_replicate, List.nil_append]
  congr 2
  omega

theorem made_rep (S : Nat) : madeCells #[.int .i64 0] S = (rep 0 S).toArray := by
  apply Array.toList_inj.1
  rw [toList_madeCells_one]
  simp [rep]
theorem rep_row {w : World} {g S : Nat} (h : w.heap[g]? = some (.cells (rep S S).toArray 3 (0, 0))) : w.rowIs g 3 S (fun _ => .int .i64 (-1)) :=
  ⟨_, h, by simp [rep_len S S (Nat.le_refl _)], fun i hi => by rw [List.getElem?_toArray]; exact rep_get S S i hi⟩
theorem rep_cell {w : World} {g k S : Nat} (h : w.heap[g]? = some (.cells (rep k S).toArray 3 (0, 0))) (j : Nat) (hj : j < k) : w.cell? ⟨g, j, none⟩ = some (.int .i64 (-1)) := by
  have e := rep_get k S j hj
  simp [World.cell?, h, e]
theorem Try.size3 : (Try.prog.info? 3).map (·.size) = some 1 := by kernel_rfl

set_option maxHeartbeats 1000000 in
theorem repeat32 (b : Nat) (S : Nat) (hS : S ≤ 65536) (w : World) (hb : b < w.heap.size) (hcell : w.cell? ⟨b, 0, none⟩ = some (.int .i64 (-1))) :
    Calls Try.prog 32 #[.slice (some ⟨b, 0, none⟩) 1 1, .int .i64 S] w fun e w' => e = .returned (.slice (some ⟨w.heap.size, 0, none⟩) S S) ∧ w'.rowIs w.heap.size 3 S (fun _ => .int .i64 (-1)) ∧ Below w.heap.size w w' := by
  have hmk := run_make_row' (P := Try.prog) 35 3 (.int .i64 0) 8 Try.underlying35 Try.info3 rfl .i64 .i64 S (by omega) (by omega)
  rw [made_rep] at hmk
  have db : decide ((9223372036854775807 : Int) < S) = false := by simp; omega
  have d0 : decide ((S : Int) < 0) = false := by simp
  have b0 : Below w.heap.size w (w.alloc (.cells (rep 0 S).toArray 3)) := (Below.refl _ _).alloc (Nat.le_refl _) _
  have hg0 : (w.alloc (.cells (rep 0 S).toArray 3)).heap[w.heap.size]? = some (.cells (rep 0 S).toArray 3 (0, 0)) := (MapKept.heap_alloc w _).1
  have B0 := hide b0
  have G0 := hide hg0
  clear b0 hg0
  obtain ⟨m, hm⟩ : ∃ m, m = Nat.min 1 S := ⟨_, rfl⟩
  have hm1 : m ≤ 1 := by rw [hm]; exact Nat.min_le_left _ _
  have hmS : m ≤ S := by rw [hm]; exact Nat.min_le_right _ _
  have hm0 : S = 0 ∨ 1 ≤ m := by rw [hm]; show S = 0 ∨ 1 ≤ min 1 S; omega
  have HN : Hid ((List.replicate m (Value.int .i64 (-1))).length = Nat.min 1 S) := by rw [List.length_replicate]; exact hm
  have HP : Hid (0 < (List.replicate m (Value.int .i64 (-1))).length → ∀ j v, (List.replicate m (Value.int .i64 (-1)))[j]? = some v → (w.alloc (.cells (rep 0 S).toArray 3)).cell? ((⟨b, 0, none⟩ : Addr).add j) = some v) := by
    intro hp j v hj
    simp [List.getElem?_replicate] at hj
    obtain ⟨hj1, rfl⟩ := hj
    obtain rfl : j = 0 := by omega
    rw [show (⟨b, 0, none⟩ : Addr).add 0 = ⟨b, 0, none⟩ from rfl, B0.out.cell hb]
    exact hcell
  have HF : Hid (0 + (List.replicate m (Value.int .i64 (-1))).length ≤ (rep 0 S).length) := by show _ ≤ _; rw [rep_len 0 S (Nat.zero_le _), List.length_replicate]; omega
  have H1 : ∀ q, Hid (∀ v ∈ List.replicate q (Value.int .i64 (-1)), v.oneCell' = true) := by
    intro q v hv
    rw [(List.mem_replicate.1 hv).2]
    rfl
  have HM0 := hide hm0
  clear hm hm0
  go_enter Try.func32, Try.ntmps32
  go_wp2_with (first | (go_at_call 41; refine (mul41 S hS _).mono ?_; rintro e w' ⟨rfl, rfl⟩) | (refine wpList_copy_splice rfl (.tmp 31) (.tmp 32) 35 35 rfl 3 Try.underlying35 Try.size3 (some ⟨w.heap.size, 0, none⟩) (some ⟨b, 0, none⟩) S S 1 1 rfl rfl w.heap.size 0 (rep 0 S) 3 G0.out (List.replicate m (.int .i64 (-1))) HN.out (fun hp => ⟨rfl, _, rfl, HP.out hp⟩) HF.out (H1 m).out w.heap.size w B0.out (Nat.le_refl _) ?_; intro w1 hg1 hb1; (have HB1 := hide hb1); (have hg1' : Hid (w1.heap[w.heap.size]? = some (.cells (rep m S).toArray 3 (0, 0))) := by have := hg1.out; rw [rep_splice 0 m S (by omega), Nat.zero_add] at this; exact this); clear hg1 hb1))
  · clear hmk
    go_loopw [8] (fun i wr => ∃ k : Nat, k ≤ S ∧ (S = 0 ∨ 1 ≤ k) ∧ i = .int .i64 k ∧ Hid (wr.heap[w.heap.size]? = some (.cells (rep k S).toArray 3 (0, 0))) ∧ Below w.heap.size w wr) (fun i _ => S - (intOf i).toNat)
    case atStart => exact ⟨m, hmS, HM0.out, by go_num, hg1', HB1.out⟩
    case round =>
      obtain ⟨k, hk, hk1, rfl, hg, hbel⟩ := hrel
      have HBE := hide hbel
      clear hbel
      by_cases hlt : k < S
      · have hk1' : 1 ≤ k := by omega
        clear hk1
        have dk : decide ((k : Int) < S) = true := by simp; omega
        have k0 : (0 : Int) ≤ k := by omega
        have kS : (k : Int) ≤ S := by omega
        obtain ⟨q, hq⟩ : ∃ q, q = Nat.min k (S - k) := ⟨_, rfl⟩
        have q1 : 1 ≤ q := by rw [hq]; show 1 ≤ min k (S - k); omega
        have q2 : k + q ≤ S := by rw [hq]; show k + min k (S - k) ≤ S; omega
        have HN2 : Hid ((List.replicate q (Value.int .i64 (-1))).length = Nat.min k (S - k)) := by rw [List.length_replicate]; exact hq
        have qk : q ≤ k := by rw [hq]; exact Nat.min_le_left _ _
        have HP2 : Hid (0 < (List.replicate q (Value.int .i64 (-1))).length → ∀ j v, (List.replicate q (Value.int .i64 (-1)))[j]? = some v → wr.drew.cell? ((⟨w.heap.size, 0, none⟩ : Addr).add j) = some v) := by
          intro hp j v hj
          simp [List.getElem?_replicate] at hj
          obtain ⟨hj1, rfl⟩ := hj
          rw [WideShapes.add_plain]
          exact rep_cell hg.out _ (by omega)
        have HF2 : Hid (k + (List.replicate q (Value.int .i64 (-1))).length ≤ (rep k S).length) := by show _ ≤ _; rw [rep_len k S (by omega), List.length_replicate]; omega
        have hSk : ¬ S = k := by omega
        have hwr : IntKind.i64.wrap ((k : Int) + (q : Int)) = (k : Int) + (q : Int) := by rw [IntKind.wrap_i64]; omega
        clear hq
        go_wp2_with fail
        go_region_held3 (fun w' => True) (trivial) (first | (refine step_copy_splice rfl (.tmp 41) (.tmp 44) 35 35 rfl 3 Try.underlying35 Try.size3 (some ⟨w.heap.size, k, none⟩) (some ⟨w.heap.size, 0, none⟩) (S - k) (S - k) k S (by rfl) (by rfl) w.heap.size k (rep k S) 3 hg.out (List.replicate q (.int .i64 (-1))) HN2.out (fun hp => ⟨rfl, _, rfl, HP2.out hp⟩) HF2.out (H1 q).out w.heap.size w HBE.out.drew (Nat.le_refl _) ?_; intro w2 hg2 hb2))
        have hg2' : Hid (w2.heap[w.heap.size]? = some (.cells (rep (k + q) S).toArray 3 (0, 0))) := by
          have := hg2.out
          rw [rep_splice k q S q2] at this
          exact this
        have HB2 := hide hb2
        clear hg2 hb2
        go_wp2_with fail
        go_roundw
        case rel => exact ⟨k + q, q2, Or.inr (by omega), by go_num, hg2', HB2.out⟩
        case measure => simp [intOf]; omega
      · obtain rfl : k = S := by omega
        go_wp2_with fail
        go_ret
        exact ⟨rfl, rep_row hg.out, HBE.out⟩
end Go.Proofs.Qxb6604014a
