/-
  WHAT readHeader ANSWERS, plain: the index after i names, the problems; the words for a list of problems in memory. Seat b6604019a.
-/
import Derived.Test.Qxb6604019aMore
import Derived.Maps.AppendAt
import Derived.Deep.AppendLies
namespace Go.Proofs.Qxb6604019a
open Go.RowKit
set_option linter.unusedVariables false

theorem Try.info35 : (Try.prog.info? 35).map (fun i => (i.zero, i.size, i.bytes)) = some (some (.agg #[.int .i64 0, .string ⟨#[]⟩]), 2, 24) := by kernel_rfl

def unk : ByteArray := ⟨#[85, 78, 75, 78, 79, 87, 78, 95, 67, 79, 76, 85, 77, 78]⟩
def dup : ByteArray := ⟨#[68, 85, 80, 76, 73, 67, 65, 84, 69, 95, 67, 79, 76, 85, 77, 78]⟩
def mis : ByteArray := ⟨#[77, 73, 83, 83, 73, 78, 71, 95, 67, 79, 76, 85, 77, 78]⟩

/-- n names (the first one trimmed), m columns, the last opt of them optional. -/
structure Hd where
  n : Nat
  h : Nat → ByteArray
  m : Nat
  C : Nat → ByteArray
  opt : Nat
namespace Hd
variable (D : Hd)
/-- The first column that has name i, or -1. -/
def col (i : Nat) : Int := fst (fun j => seq (D.C j) (D.h i)) D.m
/-- Where column c stands, of the first i names. -/
def ix : Nat → Nat → Int
  | 0, _ => -1
  | i + 1, c => if D.col i = c ∧ ix i c < 0 then (i : Int) else ix i c
/-- The problems of the first i names; those, and the first k columns that are missing. -/
def pr : Nat → List ByteArray
  | 0 => []
  | i + 1 => if D.col i < 0 then pr i ++ [unk] else if 0 ≤ D.ix i (D.col i).toNat then pr i ++ [dup] else pr i
def ms : Nat → List ByteArray
  | 0 => D.pr D.n
  | c + 1 => if D.ix D.n c < 0 then ms c ++ [mis] else ms c
def full : List ByteArray := D.ms (D.m - D.opt)

theorem col_range (i : Nat) : -1 ≤ D.col i ∧ D.col i < D.m := by
  rcases fst_is (fun j => seq (D.C j) (D.h i)) D.m with ⟨k, hk, e, _⟩ | ⟨e, _⟩
  · unfold col; omega
  · unfold col; omega
theorem ix_range (i c : Nat) : -1 ≤ D.ix i c ∧ D.ix i c < i := by
  induction i with
  | zero => exact ⟨by show -1 ≤ (-1 : Int); omega, by show (-1 : Int) < 0; omega⟩
  | succ i ih => unfold ix; split <;> omega
theorem ix_skip {i : Nat} (h : D.col i < 0) (c : Nat) : D.ix (i + 1) c = D.ix i c := if_neg fun h' => by omega
theorem ix_keep {i : Nat} (h : 0 ≤ D.ix i (D.col i).toNat) (h0 : 0 ≤ D.col i) (c : Nat) : D.ix (i + 1) c = D.ix i c :=
  if_neg fun h' => by have e : (D.col i).toNat = c := by omega
                      rw [e] at h; omega
theorem ix_new {i : Nat} (h : D.ix i (D.col i).toNat < 0) (h0 : 0 ≤ D.col i) (c : Nat) : D.ix (i + 1) c = if c = (D.col i).toNat then (i : Int) else D.ix i c := by
  by_cases e : c = (D.col i).toNat
  · rw [if_pos e]
    subst e
    exact if_pos ⟨by omega, h⟩
  · rw [if_neg e]
    exact if_neg fun h' => by omega
theorem pr_unk {i : Nat} (h : D.col i < 0) : D.pr (i + 1) = D.pr i ++ [unk] := if_pos h
theorem pr_dup {i : Nat} (h0 : 0 ≤ D.col i) (h : 0 ≤ D.ix i (D.col i).toNat) : D.pr (i + 1) = D.pr i ++ [dup] := by
  show (if D.col i < 0 then _ else _) = _
  rw [if_neg (by omega), if_pos h]
theorem pr_ok {i : Nat} (h0 : 0 ≤ D.col i) (h : D.ix i (D.col i).toNat < 0) : D.pr (i + 1) = D.pr i := by
  show (if D.col i < 0 then _ else _) = _
  rw [if_neg (by omega), if_neg (by omega)]
theorem ms_mis {c : Nat} (h : D.ix D.n c < 0) : D.ms (c + 1) = D.ms c ++ [mis] := if_pos h
theorem ms_ok {c : Nat} (h : 0 ≤ D.ix D.n c) : D.ms (c + 1) = D.ms c := if_neg (by omega)
theorem pr_len (i : Nat) : (D.pr i).length ≤ i := by
  induction i with
  | zero => exact Nat.le_refl _
  | succ i ih => unfold pr; split <;> (try split) <;> (try simp) <;> omega
theorem ms_len (c : Nat) : (D.ms c).length ≤ D.n + c := by
  induction c with
  | zero => exact D.pr_len D.n
  | succ c ih => unfold ms; split <;> (try simp) <;> omega
end Hd

/-- The cells of a list of problems, all on line 1. -/
def pc : List ByteArray → List Value
  | [] => []
  | s :: l => .int .i64 1 :: .string s :: pc l
theorem pc_append (l l' : List ByteArray) : pc (l ++ l') = pc l ++ pc l' := by
  induction l with
  | nil => rfl
  | cons s l ih => show _ :: _ :: pc (l ++ l') = _ ; rw [ih]; rfl
theorem pc_get (l : List ByteArray) (k : Nat) (h : k < l.length) : (pc l)[k * 2]? = some (.int .i64 1) ∧ (pc l)[k * 2 + 1]? = some (.string (l.getD k ⟨#[]⟩)) := by
  induction l generalizing k with
  | nil => cases h
  | cons s l ih =>
    cases k with
    | zero => exact ⟨rfl, rfl⟩
    | succ k =>
      have := ih k (by simpa using h)
      rw [show (k + 1) * 2 = k * 2 + 1 + 1 by omega]
      simpa [pc] using this
/-- v owns the problems l, and is nil where there are none. -/
def Prob (w : World) (base : Nat) (v : Value) (l : List ByteArray) : Prop := w.ownsRow base 35 2 v l.length (pc l) ∧ (l = [] → v = .slice none 0 0)
theorem Prob.nil (w : World) (base : Nat) : Prob w base (.slice none 0 0) [] := ⟨World.ownsRow_nil _ _ _ _, fun _ => rfl⟩
theorem grownBy_of_below {w w' : World} (h : Below w.heap.size w w') : w.grownBy w' none := ⟨h.os, h.tape, h.output, h.size, fun k hk _ => h.block k hk⟩
theorem Prob.below {w w' : World} {base : Nat} {v : Value} {l : List ByteArray} (h : Prob w base v l) (hb : Below w.heap.size w w') : Prob w' base v l :=
  ⟨h.1.kept (grownBy_of_below hb) (by cases h : v.ownBlock <;> simp), h.2⟩
/-- As a reader sees it. -/
theorem Prob.read {w : World} {base : Nat} {v : Value} {l : List ByteArray} (h : Prob w base v l) : ∃ a c, v = .slice a l.length c ∧ (l = [] → a = none) ∧ ∀ k, k < l.length → ∃ g, a = some ⟨g, 0, none⟩ ∧ g < w.heap.size ∧ w.cell? ⟨g, k * 2, none⟩ = some (.int .i64 1) ∧ w.cell? ⟨g, k * 2 + 1, none⟩ = some (.string (l.getD k ⟨#[]⟩)) := by
  obtain ⟨ho, hn⟩ := h
  rcases ho.2 with ⟨hv, h0⟩ | ⟨g, cap, cur, hv, hb, hh, hc, hm, hs, ht⟩
  · exact ⟨none, 0, by rw [h0]; exact hv, fun _ => rfl, fun k hk => by omega⟩
  · refine ⟨some ⟨g, 0, none⟩, cap, hv, fun e => ?_, fun k hk => ⟨g, rfl, (ho.lt g (by rw [hv]; rfl)).2, ?_, ?_⟩⟩
    · have := hn e
      rw [hv] at this
      cases this
    · subst hv
      rw [ho.cellAt (k * 2) (by omega)]
      exact (pc_get l k hk).1
    · subst hv
      rw [ho.cellAt (k * 2 + 1) (by omega)]
      exact (pc_get l k hk).2
end Go.Proofs.Qxb6604019a
