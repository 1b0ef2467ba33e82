/-
  THE PLAIN LAW of FnChooseNeverLosesAFlagByAnotherAlternative: one more alternative takes nothing away from what a choice covers. And the lists that the law's loop gathers. Seat b6604014a.
-/
import Derived.Test.Qxb6604014aChoose
namespace Go.Proofs.Qxb6604014a
open Go.RowKit

/-- The tasks, and one more. -/
def plus (n : Nat) (t : Nat → Int) (x : Int) : Nat → Int := fun j => if j < n then t j else x

theorem plus_lt {n : Nat} {t : Nat → Int} {x : Int} {j : Nat} (h : j < n) : plus n t x j = t j := if_pos h
theorem plus_at (n : Nat) (t : Nat → Int) (x : Int) : plus n t x n = x := if_neg (Nat.lt_irrefl n)

theorem plus_range {n m : Nat} {t : Nat → Int} {x : Int} (h : InRange n t m) (h0 : 0 ≤ x) (h1 : x < m) : InRange (n + 1) (plus n t x) m := by
  intro j hj
  by_cases l : j < n
  · rw [plus_lt l]; exact h j l
  · obtain rfl : j = n := by omega
    rw [plus_at]; exact ⟨h0, h1⟩

theorem orTo_congr {q p : Nat → Int} : ∀ {n : Nat}, (∀ j, j < n → q j = p j) → orTo q n = orTo p n
  | 0, _ => rfl
  | n + 1, h => by rw [orTo, orTo, orTo_congr (fun j hj => h j (by omega)), h n (by omega)]
theorem anyB_congr {n : Nat} {p q : Nat → Bool} (h : ∀ j, j < n → p j = q j) : anyB n p = anyB n q := by
  cases hq : anyB n q with
  | true =>
    obtain ⟨r, hr, hp⟩ := List.any_eq_true.1 hq
    have hr' := List.mem_range.1 hr
    exact anyB_true hr' (by rw [h r hr']; exact hp)
  | false =>
    refine anyB_false fun j hj => ?_
    rw [h j hj]
    have := List.any_eq_false.1 hq j (List.mem_range.2 hj)
    simpa using this
theorem anyB_succ (n : Nat) (p : Nat → Bool) : anyB (n + 1) p = (anyB n p || p n) := by
  unfold anyB
  rw [List.range_succ, List.any_append]
  simp

/-- The two flags. -/
def Flag (x : Int) : Prop := x = 0 ∨ x = 1 ∨ x = 2 ∨ x = 3
theorem flag_of {x : Int} (h0 : 0 ≤ x) (h3 : x ≤ 3) : Flag x := by unfold Flag; omega
theorem flag_or {x y : Int} (hx : Flag x) (hy : Flag y) : Flag (bits .or .u8 x y) := by
  rcases hx with rfl | rfl | rfl | rfl <;> rcases hy with rfl | rfl | rfl | rfl <;> unfold Flag <;> decide
theorem orTo_flag {q : Nat → Int} : ∀ {n : Nat}, (∀ j, j < n → Flag (q j)) → Flag (orTo q n)
  | 0, _ => Or.inl rfl
  | n + 1, h => by rw [orTo]; exact flag_or (orTo_flag fun j hj => h j (by omega)) (h n (by omega))

theorem chooseV_five (n : Nat) (q : Nat → Int) : chooseV n q = 7 ∨ chooseV n q = 4 ∨ chooseV n q = 3 ∨ chooseV n q = 6 ∨ chooseV n q = 5 := by
  unfold chooseV tableV
  split
  · simp
  · split
    · simp
    · split
      · simp
      · split <;> simp

/-- What the choice covers, out of 'some task is both' and what the tasks offer between them. -/
def cov (any : Bool) (o : Int) : Int := coverV (if any = true then 5 else tableV o)
theorem cov_all (any any2 : Bool) (o x : Int) (ho : Flag o) (hx : Flag x) (h2 : any2 = (any || (x == 3))) :
    0 ≤ cov any o ∧ 0 ≤ cov any2 (bits .or .u8 o x) ∧ (bits .andNot .i64 (cov any o) (cov any2 (bits .or .u8 o x)) == 0) = true := by
  subst h2
  cases any <;> rcases ho with rfl | rfl | rfl | rfl <;> rcases hx with rfl | rfl | rfl | rfl <;> decide

/-- THE PLAIN LAW. -/
theorem never_loses (n m : Nat) (t y : Nat → Int) (x : Int) (hr : InRange n t m) (h0 : 0 ≤ x) (h1 : x < m) (hy : ∀ i, i < m → Flag (y i)) :
    0 ≤ coverV (chooseV n (fun j => y (t j).toNat)) ∧ 0 ≤ coverV (chooseV (n + 1) (fun j => y (plus n t x j).toNat)) ∧
      (bits .andNot .i64 (coverV (chooseV n (fun j => y (t j).toNat))) (coverV (chooseV (n + 1) (fun j => y (plus n t x j).toNat))) == 0) = true := by
  have e1 : orTo (fun j => y (plus n t x j).toNat) n = orTo (fun j => y (t j).toNat) n := orTo_congr fun j hj => by rw [plus_lt hj]
  have e2 : anyB n (fun j => y (plus n t x j).toNat == 3) = anyB n (fun j => y (t j).toNat == 3) := anyB_congr fun j hj => by rw [plus_lt hj]
  have e3 : orTo (fun j => y (plus n t x j).toNat) (n + 1) = bits .or .u8 (orTo (fun j => y (t j).toNat) n) (y x.toNat) := by rw [orTo, e1, plus_at]
  have e4 : anyB (n + 1) (fun j => y (plus n t x j).toNat == 3) = (anyB n (fun j => y (t j).toNat == 3) || (y x.toNat == 3)) := by rw [anyB_succ, e2, plus_at]
  have f1 : Flag (orTo (fun j => y (t j).toNat) n) := orTo_flag fun j hj => hy _ (by have := hr j hj; omega)
  have f2 : Flag (y x.toNat) := hy _ (by omega)
  have := cov_all _ _ _ _ f1 f2 e4
  rw [← e3] at this
  exact this

/-! ### what the loop has gathered -/
def gat (t : Nat → Int) (k : Nat) : List Value := (List.range k).map (iv .i64 t)
theorem gat_succ (t : Nat → Int) (k : Nat) : gat t (k + 1) = gat t k ++ [.int .i64 (t k)] := by
  unfold gat
  rw [List.range_succ, List.map_append]
  rfl
theorem gat_get (t : Nat → Int) (k j : Nat) (h : j < k) : (gat t k)[j]? = some (iv .i64 t j) := by
  unfold gat
  simp [h]
theorem gat_len (t : Nat → Int) (k : Nat) : (gat t k).length = k := by unfold gat; simp

theorem gat_read {w : World} {B g n cap : Nat} {t : Nat → Int} {x : Int} (h : w.ownsRow B 3 1 (.slice (some ⟨g, 0, none⟩) (n + 1) cap) (n + 1) (gat t n ++ [.int .i64 x])) :
    Rd w (some ⟨g, 0, none⟩) (n + 1) (iv .i64 (plus n t x)) := by
  intro i hi
  have hlt := (h.lt g rfl).2
  refine ⟨g, 0, rfl, hlt, ?_⟩
  rw [Nat.zero_add, h.cellAt i (by omega)]
  by_cases l : i < n
  · rw [List.getElem?_append_left (by rw [gat_len]; exact l), gat_get t n i l]
    unfold iv
    rw [plus_lt l]
  · obtain rfl : i = n := by omega
    rw [List.getElem?_append_right (by rw [gat_len]; omega), gat_len, Nat.sub_self]
    unfold iv
    rw [plus_at]
    rfl
theorem owns_form {w : World} {B n : Nat} {v : Value} {xs : List Value} (h : w.ownsRow B 3 1 v (n + 1) xs) : ∃ g cap, v = .slice (some ⟨g, 0, none⟩) (n + 1) cap := by
  rcases h.2 with ⟨_, h0⟩ | ⟨g, cap, cur, hv, _⟩
  · omega
  · exact ⟨g, cap, hv⟩
end Go.Proofs.Qxb6604014a
