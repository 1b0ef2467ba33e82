/-
  THE PLAIN LAWS of readHeader's index and problems, in the words of the laws' own models. Seat b6604019a.
-/
import Derived.Test.Qxb6604019aPos
namespace Go.Proofs.Qxb6604019a
open Go.RowKit
set_option linter.unusedVariables false
namespace Hd
variable (D : Hd)

theorem fst_congr {p q : Nat → Bool} (h : ∀ i, p i = q i) (n : Nat) : fst p n = fst q n := by
  have : p = q := funext h
  rw [this]
theorem ix_fst (i c : Nat) : D.ix i c = fst (fun j => decide (D.col j = (c : Int))) i := by
  induction i with
  | zero => rfl
  | succ i ih =>
    unfold ix fst
    rw [← ih]
    have r := D.ix_range i c
    by_cases h0 : 0 ≤ D.ix i c
    · rw [if_pos h0, if_neg (by omega)]
    · rw [if_neg h0]
      by_cases hc : D.col i = (c : Int)
      · rw [if_pos ⟨hc, by omega⟩, if_pos (by simpa using hc)]
      · rw [if_neg (fun h => hc h.1), if_neg (by simpa using hc)]
        omega
theorem col_same {i j : Nat} (h : D.h j = D.h i) : D.col j = D.col i := by unfold col; rw [h]
theorem col_of {j c : Nat} (hc : c < D.m) (he : ear D.C c = false) (h : D.h j = D.C c) : D.col j = (c : Int) := by
  refine IsFirst.eq (fst_is _ _) (Or.inl ⟨c, hc, rfl, seq_iff.2 h.symm, fun d hd => ?_⟩)
  show seq (D.C d) (D.h j) = false
  cases e : seq (D.C d) (D.h j) with
  | false => rfl
  | true =>
    have : ear D.C c = true := ear_true hd (seq_iff.2 ((seq_iff.1 e).trans h))
    rw [he] at this
    cases this
/-- A column that an earlier one repeats has no position. -/
theorem ix_ear {c : Nat} (he : ear D.C c = true) (i : Nat) : D.ix i c = -1 := by
  have r := D.ix_range i c
  by_cases h0 : 0 ≤ D.ix i c
  · obtain ⟨j, _, _, h3⟩ := D.ix_some h0
    obtain ⟨d, hd, e⟩ := ear_iff.1 he
    obtain ⟨_, h4, h5⟩ := D.col_hit h3
    exact absurd (e.trans h4) (h5 d hd)
  · omega
/-- Any other column's position is the first place that holds its name. -/
theorem ix_new_name {c : Nat} (hc : c < D.m) (he : ear D.C c = false) (i : Nat) : fst (fun j => seq (D.h j) (D.C c)) i = D.ix i c := by
  rw [ix_fst]
  refine fst_congr (fun j => ?_) i
  cases e : seq (D.h j) (D.C c) with
  | true => exact (decide_eq_true (D.col_of hc he (seq_iff.1 e))).symm
  | false =>
    refine (decide_eq_false fun h => ?_).symm
    rw [seq_iff.2 (D.col_hit h).2.1.symm] at e
    cases e
/-- A name of a known column was there before just where an earlier name is the same. -/
theorem ear_ix {i : Nat} (h0 : 0 ≤ D.col i) : ear D.h i = true ↔ 0 ≤ D.ix i (D.col i).toNat := by
  constructor
  · intro h
    obtain ⟨j, hj, e⟩ := ear_iff.1 h
    rcases Int.lt_or_le (D.ix i (D.col i).toNat) 0 with hneg | hpos
    · rw [ix_fst] at hneg
      have := fst_neg.1 hneg j hj
      have e2 := D.col_same e
      simp at this
      omega
    · exact hpos
  · intro h
    obtain ⟨j, hj, _, h3⟩ := D.ix_some h
    obtain ⟨c, hc⟩ := Int.eq_ofNat_of_zero_le h0
    rw [hc] at h3
    have e1 := (D.col_hit (i := j) (c := c) (by simpa using h3)).2.1
    have e2 := (D.col_hit hc).2.1
    exact ear_iff.2 ⟨j, hj, e1.symm.trans e2⟩
theorem pr_ear {i : Nat} (h0 : 0 ≤ D.col i) (h : ear D.h i = true) : D.pr (i + 1) = D.pr i ++ [dup] := D.pr_dup h0 ((D.ear_ix h0).1 h)
theorem pr_not {i : Nat} (h0 : 0 ≤ D.col i) (h : ear D.h i = false) : D.pr (i + 1) = D.pr i :=
  D.pr_ok h0 (by
    rcases Int.lt_or_le (D.ix i (D.col i).toNat) 0 with hneg | hpos
    · exact hneg
    · have := (D.ear_ix h0).2 hpos
      rw [h] at this
      cases this)

theorem pr_pre {i j : Nat} (h : i ≤ j) : D.pr i <+: D.pr j := by
  induction j with
  | zero => obtain rfl : i = 0 := by omega
            exact List.prefix_refl _
  | succ j ih =>
    by_cases e : i = j + 1
    · subst e; exact List.prefix_refl _
    · refine (ih (by omega)).trans ?_
      show _ <+: (if D.col j < 0 then _ else _)
      split
      · exact List.prefix_append _ _
      · split
        · exact List.prefix_append _ _
        · exact List.prefix_refl _
theorem ms_pre {i j : Nat} (h : i ≤ j) : D.ms i <+: D.ms j := by
  induction j with
  | zero => obtain rfl : i = 0 := by omega
            exact List.prefix_refl _
  | succ j ih =>
    by_cases e : i = j + 1
    · subst e; exact List.prefix_refl _
    · refine (ih (by omega)).trans ?_
      show _ <+: (if D.ix D.n j < 0 then _ else _)
      split
      · exact List.prefix_append _ _
      · exact List.prefix_refl _
theorem pre_get {l L : List ByteArray} {x : ByteArray} (h : l ++ [x] <+: L) : l.length < L.length ∧ L.getD l.length ⟨#[]⟩ = x := by
  obtain ⟨r, rfl⟩ := h
  constructor
  · simp
  · simp
theorem pr_get {i : Nat} (hi : i < D.n) {x : ByteArray} (h : D.pr (i + 1) = D.pr i ++ [x]) : (D.pr i).length < D.full.length ∧ D.full.getD (D.pr i).length ⟨#[]⟩ = x :=
  pre_get (by rw [← h]; exact (D.pr_pre (by omega)).trans (D.ms_pre (Nat.zero_le _)))
theorem ms_get {c : Nat} (hc : c < D.m - D.opt) (h : D.ix D.n c < 0) : (D.ms c).length < D.full.length ∧ D.full.getD (D.ms c).length ⟨#[]⟩ = mis :=
  pre_get (by rw [← D.ms_mis h]; exact D.ms_pre (by omega))

/-- No problem yet. -/
def none1 (i : Nat) : Bool := (D.pr i).isEmpty
def none2 (c : Nat) : Bool := (D.ms c).isEmpty
theorem none1_bad {i : Nat} (h : D.col i < 0 ∨ 0 ≤ D.col i ∧ ear D.h i = true) : D.none1 (i + 1) = false := by
  unfold none1
  rcases h with h | ⟨h, h'⟩
  · rw [D.pr_unk h]; simp
  · rw [D.pr_ear h h']; simp
theorem none1_ok {i : Nat} (h : 0 ≤ D.col i) (h' : ear D.h i = false) : D.none1 (i + 1) = D.none1 i := by unfold none1; rw [D.pr_not h h']
theorem none2_bad {c : Nat} (h : D.ix D.n c < 0) : D.none2 (c + 1) = false := by unfold none2; rw [D.ms_mis h]; simp
theorem none2_ok {c : Nat} (h : 0 ≤ D.ix D.n c) : D.none2 (c + 1) = D.none2 c := by unfold none2; rw [D.ms_ok h]
end Hd
end Go.Proofs.Qxb6604019a
