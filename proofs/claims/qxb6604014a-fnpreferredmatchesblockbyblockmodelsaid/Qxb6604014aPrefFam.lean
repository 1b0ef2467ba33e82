/-
  A FAMILY OF ROWS that a call appends to, one by one ('before[i] = append(before[i], x)'): each row owns its block, no two the same. Seat b6604014a.
-/
import Derived.Test.Qxb6604014aPrefModel
import Derived.Deep.AppendLies
namespace Go.Proofs.Qxb6604014a
open Go.RowKit
set_option linter.unusedVariables false

structure Fam (w : World) (base K : Nat) (v : Nat → Value) (xs : Nat → List Int) : Prop where
  own : ∀ x, x < K → w.ownsRow base 3 1 (v x) (xs x).length ((xs x).map (Value.int .i64))
  ne : ∀ x y, x < K → y < K → x ≠ y → (v x).ownBlock = none ∨ (v x).ownBlock ≠ (v y).ownBlock

theorem Fam.start (w : World) (base K : Nat) : Fam w base K (fun _ => .slice none 0 0) (fun _ => []) := ⟨fun x _ => World.ownsRow_nil _ _ _ _, fun x y _ _ _ => Or.inl rfl⟩
theorem Fam.below {w w' : World} {base K : Nat} {v : Nat → Value} {xs : Nat → List Int} (h : Fam w base K v xs) (hb : Below w.heap.size w w') : Fam w' base K v xs :=
  ⟨fun x hx => owns_below (h.own x hx) hb, h.ne⟩
theorem Fam.setCell {w : World} {base K : Nat} {v : Nat → Value} {xs : Nat → List Int} (h : Fam w base K v xs) {p : Addr} (hp : p.block < base) (u : Value) : Fam (w.setCell p u) base K v xs :=
  ⟨fun x hx => ownsRow_setCell_below (h.own x hx) hp u, h.ne⟩
theorem Fam.congr {w : World} {base K : Nat} {v : Nat → Value} {xs ys : Nat → List Int} (h : Fam w base K v xs) (e : ∀ x, x < K → xs x = ys x) : Fam w base K v ys :=
  ⟨fun x hx => by rw [← e x hx]; exact h.own x hx, h.ne⟩
theorem Fam.push {w w' : World} {base K x : Nat} {v : Nat → Value} {xs : Nat → List Int} {v' : Value} {y : Int} (h : Fam w base K v xs) (hx : x < K)
    (hown : w'.ownsRow base 3 1 v' ((xs x).length + 1) ((xs x).map (Value.int .i64) ++ [.int .i64 y])) (hg : w.grownBy w' (v x).ownBlock) (hat : v'.ownBlock = (v x).ownBlock ∨ v'.ownBlock = some w.heap.size) :
    Fam w' base K (upd v x v') (upd xs x (xs x ++ [y])) := by
  have key : ∀ z, z < K → z ≠ x → (v z).ownBlock = none ∨ (v z).ownBlock ≠ v'.ownBlock := by
    intro z hz hzx
    rcases h.ne z x hz hx hzx with e | e
    · exact Or.inl e
    · rcases hat with e' | e'
      · right; rw [e']; exact e
      · cases hb : (v z).ownBlock with
        | none => exact Or.inl rfl
        | some q =>
          right
          rw [e']
          intro hq
          injection hq with hq
          have := ((h.own z hz).lt q hb).2
          omega
  constructor
  · intro z hz
    by_cases e : z = x
    · subst e
      rw [upd_at, upd_at, List.length_append, List.map_append]
      exact hown
    · rw [upd_ne _ _ e, upd_ne _ _ e]
      exact (h.own z hz).kept hg (h.ne z x hz hx e)
  · intro z u hz hu hzu
    by_cases e : z = x
    · subst e
      rw [upd_at, upd_ne _ _ (fun e => hzu e.symm)]
      rcases key u hu (fun e => hzu e.symm) with k | k
      · rw [k]
        cases hb : v'.ownBlock with
        | none => exact Or.inl rfl
        | some q => right; intro hq; cases hq
      · right; exact fun hq => k hq.symm
    · rw [upd_ne _ _ e]
      by_cases e2 : u = x
      · subst e2
        rw [upd_at]
        exact key z hz e
      · rw [upd_ne _ _ e2]
        exact h.ne z u hz hu hzu

/-- The rows before and after the blocks, of the first k pairs. -/
def Dat.ba (D : Dat) (k x : Nat) : List Int := if x < D.N then D.bef x k else D.aft (x - D.N) k
theorem Dat.ba_bef (D : Dat) {k x : Nat} (h : x < D.N) : D.ba k x = D.bef x k := if_pos h
theorem Dat.ba_aft (D : Dat) {k : Nat} (x : Nat) : D.ba k (D.N + x) = D.aft x k := by unfold Dat.ba; rw [if_neg (by omega), Nat.add_sub_cancel_left]
/-- .. the first half of pair k told, the second not yet. -/
def Dat.bb (D : Dat) (k x : Nat) : List Int := if x < D.N then D.bef x (k + 1) else D.aft (x - D.N) k
theorem Dat.bb_aft (D : Dat) {k : Nat} (x : Nat) : D.bb k (D.N + x) = D.aft x k := by unfold Dat.bb; rw [if_neg (by omega), Nat.add_sub_cancel_left]
theorem Dat.ba_len (D : Dat) (k x : Nat) : (D.ba k x).length ≤ k := by unfold Dat.ba; split; exact D.bef_len _ _; exact D.aft_len _ _
theorem Dat.bb_len (D : Dat) (k x : Nat) : (D.bb k x).length ≤ k + 1 := by unfold Dat.bb; split; exact D.bef_len _ _; have := D.aft_len (x - D.N) k; omega

theorem Dat.ba_hit (D : Dat) {k i : Nat} (hi : i < D.N) (h : D.own D.N (D.g k) = i) : ∀ x, upd (D.ba k) i (D.ba k i ++ [D.f k]) x = D.bb k x := by
  intro x
  unfold Dat.bb
  by_cases e : x = i
  · subst e; rw [upd_at, if_pos hi, D.bef_hit h, D.ba_bef hi]
  · rw [upd_ne _ _ e]
    unfold Dat.ba
    by_cases l : x < D.N
    · rw [if_pos l, if_pos l, D.bef_miss (fun h' => e (by omega))]
    · rw [if_neg l, if_neg l]
theorem Dat.ba_miss (D : Dat) {k : Nat} (h : D.own D.N (D.g k) = -1) : ∀ x, D.ba k x = D.bb k x := by
  intro x
  unfold Dat.bb Dat.ba
  by_cases l : x < D.N
  · rw [if_pos l, if_pos l, D.bef_miss (by omega)]
  · rw [if_neg l, if_neg l]
theorem Dat.bb_hit (D : Dat) {k i : Nat} (hi : i < D.N) (h : D.own D.N (D.f k) = i) : ∀ x, upd (D.bb k) (D.N + i) (D.bb k (D.N + i) ++ [D.g k]) x = D.ba (k + 1) x := by
  intro x
  by_cases e : x = D.N + i
  · subst e; rw [upd_at, D.bb_aft, D.ba_aft, D.aft_hit h]
  · rw [upd_ne _ _ e]
    unfold Dat.bb Dat.ba
    by_cases l : x < D.N
    · rw [if_pos l, if_pos l]
    · rw [if_neg l, if_neg l, D.aft_miss (fun h' => e (by omega))]
theorem Dat.bb_miss (D : Dat) {k : Nat} (h : D.own D.N (D.f k) = -1) : ∀ x, D.bb k x = D.ba (k + 1) x := by
  intro x
  unfold Dat.bb Dat.ba
  by_cases l : x < D.N
  · rw [if_pos l, if_pos l]
  · rw [if_neg l, if_neg l, D.aft_miss (by omega)]

/-- One append to one row of the family, its new header stored. -/
theorem fam_step {wr Wq w1 W4 : World} {B base K gX gY N s s' i g cap : Nat} {v : Nat → Value} {xs : Nat → List Int} {y : Int}
    (hf : Fam wr base K v xs) (hx : s + i < K) (hi : i < N) (hbq : Below wr.heap.size wr Wq) (hbase : base ≤ wr.heap.size)
    (hX : wr.rowIs gX 35 N (fun j => v (s + j))) (hY : wr.rowIs gY 35 N (fun j => v (s' + j))) (hss : ∀ j, j < N → s' + j ≠ s + i) (hne : gX ≠ gY) (hXb : gX < base) (hYb : gY < base)
    (hB : Below B W4 wr) (hBX : B ≤ gX) (hBb : B ≤ base)
    (hown : w1.ownsRow base 3 1 (.slice (some ⟨g, 0, none⟩) ((xs (s + i)).length + 1) cap) ((xs (s + i)).length + 1) ((xs (s + i)).map (Value.int .i64) ++ [.int .i64 y]))
    (hgrow : Wq.grownBy w1 (v (s + i)).ownBlock) (hat : (v (s + i)).ownBlock = some g ∨ g = Wq.heap.size) :
    Fam (w1.setCell ⟨gX, i, none⟩ (.slice (some ⟨g, 0, none⟩) ((xs (s + i)).length + 1) cap)) base K (upd v (s + i) (.slice (some ⟨g, 0, none⟩) ((xs (s + i)).length + 1) cap)) (upd xs (s + i) (xs (s + i) ++ [y])) ∧
    (w1.setCell ⟨gX, i, none⟩ (.slice (some ⟨g, 0, none⟩) ((xs (s + i)).length + 1) cap)).rowIs gX 35 N (fun j => upd v (s + i) (.slice (some ⟨g, 0, none⟩) ((xs (s + i)).length + 1) cap) (s + j)) ∧
    (w1.setCell ⟨gX, i, none⟩ (.slice (some ⟨g, 0, none⟩) ((xs (s + i)).length + 1) cap)).rowIs gY 35 N (fun j => upd v (s + i) (.slice (some ⟨g, 0, none⟩) ((xs (s + i)).length + 1) cap) (s' + j)) ∧
    Below B W4 (w1.setCell ⟨gX, i, none⟩ (.slice (some ⟨g, 0, none⟩) ((xs (s + i)).length + 1) cap)) ∧
    Wq.heap.size ≤ (w1.setCell ⟨gX, i, none⟩ (.slice (some ⟨g, 0, none⟩) ((xs (s + i)).length + 1) cap)).heap.size ∧
    ∀ q o, q < Wq.heap.size → some q ≠ (v (s + i)).ownBlock → q ≠ gX → (w1.setCell ⟨gX, i, none⟩ (.slice (some ⟨g, 0, none⟩) ((xs (s + i)).length + 1) cap)).cell? ⟨q, o, none⟩ = Wq.cell? ⟨q, o, none⟩ := by
  have hq := hf.below hbq
  have hblk : ∀ q, q < base → some q ≠ (v (s + i)).ownBlock := by
    intro q hl e
    have := ((hf.own (s + i) hx).lt q e.symm).1
    omega
  have hsz := hbq.size
  have hXq : w1.rowIs gX 35 N (fun j => v (s + j)) := by
    refine (hX.of_block (hbq.block gX (by omega))).of_block ?_
    exact hgrow.block gX (by omega) (hblk gX hXb)
  have hYq : w1.rowIs gY 35 N (fun j => v (s' + j)) := by
    refine (hY.of_block (hbq.block gY (by omega))).of_block ?_
    exact hgrow.block gY (by omega) (hblk gY hYb)
  refine ⟨?_, ?_, ?_, ?_, ?_, ?_⟩
  · exact (hq.push hx hown hgrow (by rcases hat with e | e; exact Or.inl e.symm; exact Or.inr (by rw [e]; rfl))).setCell hXb _
  · refine (hXq.set i _).congr fun j hj => ?_
    by_cases e : j = i
    · subst e; rw [if_pos rfl, upd_at]
    · rw [if_neg e, upd_ne _ _ (by omega)]
  · refine (hYq.setOther (fun e => hne e.symm) _).congr fun j hj => ?_
    rw [upd_ne _ _ (hss j hj)]
  · refine Below.setCell ?_ hBX _
    refine (hB.trans (hbq.mono (by have := hX.lt; omega))).grown hgrow (by have := hX.lt; omega) ?_
    intro q hq'
    have := ((hf.own (s + i) hx).lt q hq').1
    omega
  · have := hgrow.size
    simpa [World.setCell] using this
  · intro q o hl hne1 hne2
    rw [World.cell?_of_block (w := w1) (a := ⟨q, o, none⟩) (Below.heap_setCell w1 ⟨gX, i, none⟩ _ q hne2)]
    exact hgrow.cell_far ⟨q, o, none⟩ hl hne1
end Go.Proofs.Qxb6604014a
