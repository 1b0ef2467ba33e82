/-
  THE PLAIN SIDE of FnPreferredMatchesBlockByBlockModel: who owns a task, who stands before and after a block, which alternatives are preferred; and the words for slices of rows in memory. Seat b6604014a.
-/
import Derived.Test.Qxb6604014aPrefSort2
import Derived.Test.Qxb6604014aPrefSvc
import Derived.Maps.AppendAt
namespace Go.Proofs.Qxb6604014a
open Go.RowKit
set_option linter.unusedVariables false

/-! ### one more step of 'some element' -/
theorem anyB_succ (n : Nat) (p : Nat → Bool) : anyB (n + 1) p = (anyB n p || p n) := by
  unfold anyB
  rw [List.range_succ, List.any_append]
  simp

/-- The data of a call: blocks, pairs, services. -/
structure Dat where
  N : Nat
  L : Nat → Nat
  c : Nat → Nat → Int
  P : Nat
  f : Nat → Int
  g : Nat → Int
  S : Nat
  o : Nat → Int
  l : Nat → Bool

namespace Dat
variable (D : Dat)
/-- The last of the first n blocks that lists t, or -1. -/
def own : Nat → Int → Int
  | 0, _ => -1
  | n + 1, t => if anyB (D.L n) (fun j => D.c n j == t) = true then (n : Int) else own n t
/-- .. when block i has been looked at up to its place j. -/
def ownJ (i j : Nat) (t : Int) : Int := if anyB j (fun q => D.c i q == t) = true then (i : Int) else D.own i t
theorem own_succ (i : Nat) (t : Int) : D.own (i + 1) t = D.ownJ i (D.L i) t := rfl
theorem ownJ_zero (i : Nat) (t : Int) : D.ownJ i 0 t = D.own i t := if_neg (by simp [anyB])
theorem ownJ_step (i j : Nat) (t : Int) : D.ownJ i (j + 1) t = if t = D.c i j then (i : Int) else D.ownJ i j t := by
  unfold ownJ
  rw [anyB_succ]
  by_cases e : t = D.c i j
  · subst e; simp
  · have h : (D.c i j == t) = false := by simpa using fun h => e h.symm
    rw [h, Bool.or_false, if_neg e]
theorem own_range (n : Nat) (t : Int) : -1 ≤ D.own n t ∧ D.own n t < n := by
  induction n with
  | zero => exact ⟨by show -1 ≤ (-1 : Int); omega, by show (-1 : Int) < 0; omega⟩
  | succ n ih =>
    rw [own_succ]
    unfold ownJ
    split <;> omega
theorem anyB_lists {L : Nat → Nat} {c : Nat → Nat → Int} {t : Int} {i : Nat} : anyB (L i) (fun j => c i j == t) = true ↔ lists L c t i := by
  unfold anyB lists
  rw [List.any_eq_true]
  constructor
  · rintro ⟨j, hj, h⟩; exact ⟨j, List.mem_range.1 hj, by simpa using h⟩
  · rintro ⟨j, hj, h⟩; exact ⟨j, List.mem_range.2 hj, by simpa using h⟩
theorem isLast_own (n : Nat) {t r : Int} (h : IsLast n D.L D.c t r) : r = D.own n t := by
  induction n with
  | zero =>
    rcases h with ⟨i, _, hi, _⟩ | ⟨h, _⟩
    · omega
    · exact h
  | succ n ih =>
    show r = if anyB (D.L n) (fun j => D.c n j == t) = true then (n : Int) else D.own n t
    by_cases hl : lists D.L D.c t n
    · rw [if_pos (anyB_lists.2 hl)]
      rcases h with ⟨i, rfl, hi, _, hk⟩ | ⟨_, hk⟩
      · by_cases e : i = n
        · rw [e]
        · exact absurd hl (hk n (by omega) (by omega))
      · exact absurd hl (hk n (by omega))
    · rw [if_neg (fun h => hl (anyB_lists.1 h))]
      apply ih
      rcases h with ⟨i, rfl, hi, h1, hk⟩ | ⟨h1, hk⟩
      · have : i ≠ n := fun e => hl (e ▸ h1)
        exact Or.inl ⟨i, rfl, by omega, h1, fun k h2 h3 => hk k (by omega) h3⟩
      · exact Or.inr ⟨h1, fun k h2 => hk k (by omega)⟩

def recT (t : Int) : Bool := recV (D.o t.toNat) (D.l t.toNat)
def retT (t : Int) : Bool := retV (D.o t.toNat)

/-- The tasks right before block i, of the first k pairs; the tasks right after it. -/
def bef (i : Nat) : Nat → List Int
  | 0 => []
  | k + 1 => if D.own D.N (D.g k) = i then bef i k ++ [D.f k] else bef i k
def aft (i : Nat) : Nat → List Int
  | 0 => []
  | k + 1 => if D.own D.N (D.f k) = i then aft i k ++ [D.g k] else aft i k
theorem bef_hit {i k : Nat} (h : D.own D.N (D.g k) = i) : D.bef i (k + 1) = D.bef i k ++ [D.f k] := if_pos h
theorem bef_miss {i k : Nat} (h : D.own D.N (D.g k) ≠ i) : D.bef i (k + 1) = D.bef i k := if_neg h
theorem aft_hit {i k : Nat} (h : D.own D.N (D.f k) = i) : D.aft i (k + 1) = D.aft i k ++ [D.g k] := if_pos h
theorem aft_miss {i k : Nat} (h : D.own D.N (D.f k) ≠ i) : D.aft i (k + 1) = D.aft i k := if_neg h
theorem bef_len (i k : Nat) : (D.bef i k).length ≤ k := by
  induction k with
  | zero => exact Nat.le_refl _
  | succ k ih => unfold bef; split <;> (try simp) <;> omega
theorem aft_len (i k : Nat) : (D.aft i k).length ≤ k := by
  induction k with
  | zero => exact Nat.le_refl _
  | succ k ih => unfold aft; split <;> (try simp) <;> omega
theorem bef_mem {i k : Nat} {x : Int} (h : x ∈ D.bef i k) : ∃ q, q < k ∧ x = D.f q := by
  induction k with
  | zero => cases h
  | succ k ih =>
    unfold bef at h
    split at h
    · rcases List.mem_append.1 h with h | h
      · obtain ⟨q, h1, h2⟩ := ih h; exact ⟨q, by omega, h2⟩
      · exact ⟨k, by omega, by simpa using h⟩
    · obtain ⟨q, h1, h2⟩ := ih h; exact ⟨q, by omega, h2⟩
theorem aft_mem {i k : Nat} {x : Int} (h : x ∈ D.aft i k) : ∃ q, q < k ∧ x = D.g q := by
  induction k with
  | zero => cases h
  | succ k ih =>
    unfold aft at h
    split at h
    · rcases List.mem_append.1 h with h | h
      · obtain ⟨q, h1, h2⟩ := ih h; exact ⟨q, by omega, h2⟩
      · exact ⟨k, by omega, by simpa using h⟩
    · obtain ⟨q, h1, h2⟩ := ih h; exact ⟨q, by omega, h2⟩

/-- Block i is entered; all that enter it are recoverable; some that leaves it is fallible. -/
def ent (i k : Nat) : Bool := !(D.bef i k).isEmpty
def unr (i k : Nat) : Bool := (D.bef i k).any fun t => !D.recT t
def fal (i k : Nat) : Bool := (D.aft i k).any fun t => !D.retT t
def qual (i : Nat) : Bool := D.ent i D.P && !D.unr i D.P && D.fal i D.P

/-- The recoverable alternatives of block i's first j. -/
def alt (i : Nat) : Nat → List Int
  | 0 => []
  | j + 1 => if D.recT (D.c i j) = true then alt i j ++ [D.c i j] else alt i j
theorem alt_hit {i j : Nat} (h : D.recT (D.c i j) = true) : D.alt i (j + 1) = D.alt i j ++ [D.c i j] := if_pos h
theorem alt_miss {i j : Nat} (h : D.recT (D.c i j) = false) : D.alt i (j + 1) = D.alt i j := if_neg (by rw [h]; exact Bool.false_ne_true)
theorem alt_len (i j : Nat) : (D.alt i j).length ≤ j := by
  induction j with
  | zero => exact Nat.le_refl _
  | succ j ih => unfold alt; split <;> (try simp) <;> omega

/-- What is preferred, of the first k blocks. -/
def res : Nat → List (List Int)
  | 0 => []
  | k + 1 => if D.qual k = true ∧ 0 < (D.alt k (D.L k)).length then res k ++ [srt (D.alt k (D.L k))] else res k
theorem res_hit {k : Nat} (h : D.qual k = true) (h' : 0 < (D.alt k (D.L k)).length) : D.res (k + 1) = D.res k ++ [srt (D.alt k (D.L k))] := if_pos ⟨h, h'⟩
theorem res_miss {k : Nat} (h : D.qual k = false) : D.res (k + 1) = D.res k := if_neg fun h' => by rw [h] at h'; cases h'.1
theorem res_none {k : Nat} (h : (D.alt k (D.L k)).length = 0) : D.res (k + 1) = D.res k := if_neg fun h' => by omega
theorem res_len (k : Nat) : (D.res k).length ≤ k := by
  induction k with
  | zero => exact Nat.le_refl _
  | succ k ih => unfold res; split <;> (try simp) <;> omega
theorem res_row {k j : Nat} (h : j < (D.res k).length) : ∃ i, i < k ∧ (D.res k).getD j [] = srt (D.alt i (D.L i)) := by
  induction k with
  | zero => cases h
  | succ k ih =>
    unfold res at h ⊢
    split at h
    · rename_i hc
      rw [if_pos hc]
      by_cases l : j < (D.res k).length
      · obtain ⟨i, h1, h2⟩ := ih l
        refine ⟨i, by omega, ?_⟩
        rw [← h2]
        simp [List.getElem?_append_left l]
      · simp at h
        obtain rfl : j = (D.res k).length := by omega
        exact ⟨k, by omega, by simp⟩
    · rename_i hc
      rw [if_neg hc]
      obtain ⟨i, h1, h2⟩ := ih h
      exact ⟨i, by omega, h2⟩
end Dat

/-! ### slices of rows that the call makes -/
theorem grownBy_of_below {w w' : World} (h : Below w.heap.size w w') : w.grownBy w' none := ⟨h.os, h.tape, h.output, h.size, fun k hk _ => h.block k hk⟩

/-- u is a row of the numbers r, in a block that is not x. -/
def RowOf (w : World) (x : Option Nat) (u : Value) (r : List Int) : Prop :=
  ∃ g cap, u = .slice (some ⟨g, 0, none⟩) r.length cap ∧ g < w.heap.size ∧ some g ≠ x ∧ ∀ i, i < r.length → w.cell? ⟨g, i, none⟩ = some (.int .i64 (r.getD i 0))
theorem RowOf.grown {w w' : World} {x x' : Option Nat} {u : Value} {r : List Int} (h : RowOf w x u r) (hg : w.grownBy w' x) (hx : ∀ g, g < w.heap.size → some g ≠ x → some g ≠ x') : RowOf w' x' u r := by
  obtain ⟨g, cap, hu, hl, hne, hc⟩ := h
  refine ⟨g, cap, hu, Nat.lt_of_lt_of_le hl hg.size, hx g hl hne, fun i hi => ?_⟩
  rw [World.cell?_of_block (w := w) (hg.block g hl hne)]
  exact hc i hi
theorem RowOf.below {w w' : World} {x : Option Nat} {u : Value} {r : List Int} (h : RowOf w x u r) (hb : Below w.heap.size w w') : RowOf w' x u r := by
  obtain ⟨g, cap, hu, hl, hne, hc⟩ := h
  exact ⟨g, cap, hu, Nat.lt_of_lt_of_le hl hb.size, hne, fun i hi => by rw [hb.cell hl]; exact hc i hi⟩

/-- v owns the headers of the rows R. -/
def Res (w : World) (base : Nat) (v : Value) (R : List (List Int)) : Prop :=
  ∃ hd : List Value, w.ownsRow base 35 1 v R.length hd ∧ ∀ k, k < R.length → ∃ u, hd[k]? = some u ∧ RowOf w v.ownBlock u (R.getD k [])
theorem Res.nil (w : World) (base : Nat) : Res w base (.slice none 0 0) [] := ⟨[], World.ownsRow_nil _ _ _ _, fun k hk => absurd hk (Nat.not_lt_zero k)⟩
theorem Res.below {w w' : World} {base : Nat} {v : Value} {R : List (List Int)} (h : Res w base v R) (hb : Below w.heap.size w w') : Res w' base v R := by
  obtain ⟨hd, h1, h2⟩ := h
  refine ⟨hd, h1.kept (grownBy_of_below hb) (by cases h : v.ownBlock <;> simp), fun k hk => ?_⟩
  obtain ⟨u, hu, hr⟩ := h2 k hk
  exact ⟨u, hu, hr.below hb⟩
/-- Behind 'append(v, u)', u a row in a block younger than v's. -/
theorem Res.push {w w' : World} {base : Nat} {v v' u : Value} {R : List (List Int)} {r : List Int} {hd : List Value} (h1 : w.ownsRow base 35 1 v R.length hd) (h2 : ∀ k, k < R.length → ∃ u, hd[k]? = some u ∧ RowOf w v.ownBlock u (R.getD k []))
    (hu : RowOf w v.ownBlock u r) (hown : w'.ownsRow base 35 1 v' (R.length + 1) (hd ++ [u])) (hg : w.grownBy w' v.ownBlock) (hat : v'.ownBlock = v.ownBlock ∨ v'.ownBlock = some w.heap.size) : Res w' base v' (R ++ [r]) := by
  have hx : ∀ g, g < w.heap.size → some g ≠ v.ownBlock → some g ≠ v'.ownBlock := by
    intro g hl hne
    rcases hat with e | e
    · rw [e]; exact hne
    · rw [e]; intro h; injection h with h; omega
  have hlen : hd.length = R.length := by have := h1.1; omega
  refine ⟨hd ++ [u], by simpa using hown, fun k hk => ?_⟩
  by_cases l : k < R.length
  · obtain ⟨u', hu', hr⟩ := h2 k l
    refine ⟨u', by rw [List.getElem?_append_left (by omega)]; exact hu', ?_⟩
    have e : (R ++ [r]).getD k [] = R.getD k [] := by simp [List.getElem?_append_left l]
    rw [e]
    exact hr.grown hg hx
  · have hk' : k = R.length := by simp at hk; omega
    subst hk'
    refine ⟨u, by rw [← hlen, List.getElem?_append_right (Nat.le_refl _)]; simp, ?_⟩
    have e : (R ++ [r]).getD R.length [] = r := by simp
    rw [e]
    exact hu.grown hg hx

/-- The result as a slice of rows. -/
theorem Res.bl {w : World} {base : Nat} {v : Value} {R : List (List Int)} (h : Res w base v R) :
    ∃ a cap, v = .slice a R.length cap ∧ Bl w a R.length (fun i => (R.getD i []).length) (fun i j => (R.getD i []).getD j 0) := by
  obtain ⟨hd, h1, h2⟩ := h
  rcases h1.2 with ⟨hv, h0⟩ | ⟨g, cap, cur, hv, hb, hh, hc, hm, hs, ht⟩
  · refine ⟨none, 0, ?_, fun _ => none, fun _ => 0, ?_, ?_⟩
    · rw [h0]; exact hv
    · rw [h0]; exact Rd.zero _ _ _
    · intro i hi; omega
  · subst hv
    refine ⟨some ⟨g, 0, none⟩, cap, rfl, ?_⟩
    have key : ∀ i, ∃ (x : Option Addr × Nat), i < R.length → hd[i]? = some (.slice x.1 (R.getD i []).length x.2) ∧ Rd w x.1 (R.getD i []).length (iv .i64 (fun j => (R.getD i []).getD j 0)) := by
      intro i
      by_cases hi : i < R.length
      · obtain ⟨u, hu, q, cp, hu2, hl, _, hcl⟩ := h2 i hi
        refine ⟨(some ⟨q, 0, none⟩, cp), fun _ => ⟨by rw [hu, hu2], fun j hj => ⟨q, 0, rfl, hl, by rw [Nat.zero_add]; exact hcl j hj⟩⟩⟩
      · exact ⟨(none, 0), fun h => absurd h hi⟩
    obtain ⟨x, hx⟩ : ∃ x : Nat → Option Addr × Nat, ∀ i, i < R.length → hd[i]? = some (.slice (x i).1 (R.getD i []).length (x i).2) ∧ Rd w (x i).1 (R.getD i []).length (iv .i64 (fun j => (R.getD i []).getD j 0)) :=
      ⟨fun i => Classical.choose (key i), fun i => Classical.choose_spec (key i)⟩
    refine ⟨fun i => (x i).1, fun i => (x i).2, fun i hi => ?_, fun i hi => (hx i hi).2⟩
    refine ⟨g, 0, rfl, (h1.lt g rfl).2, ?_⟩
    rw [Nat.zero_add, h1.cellAt i (by omega)]
    exact (hx i hi).1
end Go.Proofs.Qxb6604014a
