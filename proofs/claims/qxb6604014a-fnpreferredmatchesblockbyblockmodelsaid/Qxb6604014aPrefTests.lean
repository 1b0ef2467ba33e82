/-
  HELP FOR THE WALK OF preferred (25): an owned row as a reader sees it, the two tests by slices.ContainsFunc. Seat b6604014a.
-/
import Derived.Test.Qxb6604014aPrefFam
namespace Go.Proofs.Qxb6604014a
open Go.RowKit
set_option linter.unusedVariables false

theorem owns_rd {w : World} {base : Nat} {v : Value} {l : List Int} (h : w.ownsRow base 3 1 v l.length (l.map (Value.int .i64))) : ∃ a c, v = .slice a l.length c ∧ Rd w a l.length (iv .i64 (fun i => l.getD i 0)) := by
  rcases owns_cases h with ⟨hv, h0⟩ | ⟨g, cap, hv⟩
  · exact ⟨none, 0, by rw [h0]; exact hv, by rw [h0]; exact Rd.zero _ _ _⟩
  · refine ⟨some ⟨g, 0, none⟩, cap, hv, fun i hi => ⟨g, 0, rfl, (h.lt g (by rw [hv]; rfl)).2, ?_⟩⟩
    subst hv
    rw [Nat.zero_add, h.cellAt i (by omega)]
    simp [hi, iv]
theorem anyB_list (l : List Int) (p : Int → Bool) : anyB l.length (fun j => p (l.getD j 0)) = l.any p := by
  unfold anyB
  rw [Bool.eq_iff_iff, List.any_eq_true, List.any_eq_true]
  constructor
  · rintro ⟨j, hj, h⟩
    have hj' := List.mem_range.1 hj
    rw [getD_lt hj'] at h
    exact ⟨_, List.getElem_mem hj', h⟩
  · rintro ⟨x, hx, h⟩
    obtain ⟨j, hj, rfl⟩ := List.getElem_of_mem hx
    exact ⟨j, List.mem_range.2 hj, by rw [getD_lt hj]; exact h⟩
theorem enter35 (x y : Value) (w : World) : (callFunc 35 #[x, y]).run Try.prog w = .ok (.enter 35 #[x, y]) w := by kernel_rfl

theorem chk33 (D : Dat) {a b d : Option Addr} (bx cS : Nat) (a' : Option Addr) (c : Nat) (l : List Int) (w : World) (h : In D w a b d) (hcell : w.cell? ⟨bx, 0, none⟩ = some (.slice d D.S cS)) (hbx : bx < w.heap.size)
    (hl : l.length ≤ 65537) (hr : Rd w a' l.length (iv .i64 (fun i => l.getD i 0))) (hm : ∀ x ∈ l, 0 ≤ x ∧ x < D.S) :
    Calls Try.prog 37 #[.slice a' l.length c, .func (Fn.func 33) #[] #[.pointer (some ⟨bx, 0, none⟩)]] w fun e w' => e = .returned (.bool (l.any fun t => !D.recT t)) ∧ Below w.heap.size w w' := by
  rw [← anyB_list]
  refine contains37 a' l.length c (fun i => l.getD i 0) 33 (.pointer (some ⟨bx, 0, none⟩)) (fun j => !D.recT (l.getD j 0)) w hl hr enter33 fun j hj w1 hb1 => ?_
  obtain ⟨x0, x1⟩ := hm (l.getD j 0) (by rw [getD_lt hj]; exact List.getElem_mem hj)
  obtain ⟨y0, y1⟩ := h.o (l.getD j 0).toNat (by omega)
  exact clo33 bx d D.S cS D.o D.l (l.getD j 0) w1 (by rw [hb1.cell hbx]; exact hcell) (h.sv.below hb1) x0 x1 y0 y1
theorem chk35 (D : Dat) {a b d : Option Addr} (bx cS : Nat) (a' : Option Addr) (c : Nat) (l : List Int) (w : World) (h : In D w a b d) (hcell : w.cell? ⟨bx, 0, none⟩ = some (.slice d D.S cS)) (hbx : bx < w.heap.size)
    (hl : l.length ≤ 65537) (hr : Rd w a' l.length (iv .i64 (fun i => l.getD i 0))) (hm : ∀ x ∈ l, 0 ≤ x ∧ x < D.S) :
    Calls Try.prog 37 #[.slice a' l.length c, .func (Fn.func 35) #[] #[.pointer (some ⟨bx, 0, none⟩)]] w fun e w' => e = .returned (.bool (l.any fun t => !D.retT t)) ∧ Below w.heap.size w w' := by
  rw [← anyB_list]
  refine contains37 a' l.length c (fun i => l.getD i 0) 35 (.pointer (some ⟨bx, 0, none⟩)) (fun j => !D.retT (l.getD j 0)) w hl hr enter35 fun j hj w1 hb1 => ?_
  obtain ⟨x0, x1⟩ := hm (l.getD j 0) (by rw [getD_lt hj]; exact List.getElem_mem hj)
  exact clo35 bx d D.S cS D.o D.l (l.getD j 0) w1 (by rw [hb1.cell hbx]; exact hcell) (h.sv.below hb1) x0 x1

/-- The block's row of tasks before it, and what the first test says. -/
theorem test_bef (D : Dat) {a b d : Option Addr} {w W : World} {base bx cS k : Nat} {v : Value} (hk : k < D.N) (h : In D w a b d) (hcell : w.cell? ⟨bx, 0, none⟩ = some (.slice d D.S cS)) (hbx : bx < w.heap.size)
    (ho : w.ownsRow base 3 1 v (D.ba D.P k).length ((D.ba D.P k).map (Value.int .i64))) : ∃ a' n c, v = .slice a' n c ∧ n ≤ 4096 ∧ (n = 0 ↔ D.ent k D.P = false) ∧
      Calls Try.prog 37 #[.slice a' n c, .func (Fn.func 33) #[] #[.pointer (some ⟨bx, 0, none⟩)]] w fun e w' => e = .returned (.bool (D.unr k D.P)) ∧ Below w.heap.size w w' := by
  rw [D.ba_bef hk] at ho
  obtain ⟨a', c, hv, hr⟩ := owns_rd ho
  have hl := D.bef_len k D.P
  have hp := h.p
  refine ⟨a', _, c, hv, by omega, ?_, chk33 D bx cS a' c (D.bef k D.P) w h hcell hbx (by omega) hr ?_⟩
  · unfold Dat.ent
    rw [List.length_eq_zero_iff]
    cases D.bef k D.P <;> simp
  · intro x hx
    obtain ⟨q, hq, rfl⟩ := D.bef_mem hx
    exact h.ids.2.1 q hq
theorem test_aft (D : Dat) {a b d : Option Addr} {w W : World} {base bx cS k : Nat} {v : Value} (hk : k < D.N) (h : In D w a b d) (hcell : w.cell? ⟨bx, 0, none⟩ = some (.slice d D.S cS)) (hbx : bx < w.heap.size)
    (ho : w.ownsRow base 3 1 v (D.ba D.P (D.N + k)).length ((D.ba D.P (D.N + k)).map (Value.int .i64))) : ∃ a' n c, v = .slice a' n c ∧ n ≤ 4096 ∧
      ∀ w1, Below w.heap.size w w1 → Calls Try.prog 37 #[.slice a' n c, .func (Fn.func 35) #[] #[.pointer (some ⟨bx, 0, none⟩)]] w1 fun e w' => e = .returned (.bool (D.fal k D.P)) ∧ Below w1.heap.size w1 w' := by
  rw [D.ba_aft k] at ho
  obtain ⟨a', c, hv, hr⟩ := owns_rd ho
  have hl := D.aft_len k D.P
  have hp := h.p
  refine ⟨a', _, c, hv, by omega, fun w1 hb1 => chk35 D bx cS a' c (D.aft k D.P) w1 (h.below hb1) (by rw [hb1.cell hbx]; exact hcell) (Nat.lt_of_lt_of_le hbx hb1.size) (by omega) (hr.below hb1) ?_⟩
  intro x hx
  obtain ⟨q, hq, rfl⟩ := D.aft_mem hx
  exact h.ids.2.2 q hq
end Go.Proofs.Qxb6604014a
