/-
  WORDS FOR THE WALKS of this seat: a slice as a reader sees it ('Rd'); worlds behind one another. No project text.
-/
import Derived.WalkKit
import Derived.WalkSpells
import Derived.Deep.OwnRows
namespace Go.Proofs.Qxb6604019a
open Go.RowKit

theorem hide {p : Prop} (h : p) : Hid p := h

/-- A slice of n elements of one cell at address a, as a reader sees it: element i is f i. -/
def Rd (w : World) (a : Option Addr) (n : Nat) (f : Nat → Value) : Prop :=
  ∀ i, i < n → ∃ b off, a = some ⟨b, off, none⟩ ∧ b < w.heap.size ∧ w.cell? ⟨b, off + i, none⟩ = some (f i)

theorem Rd.below {w w' : World} {a : Option Addr} {n : Nat} {f : Nat → Value} (h : Rd w a n f) (hb : Below w.heap.size w w') : Rd w' a n f := by
  intro i hi
  obtain ⟨b, off, ha, hlt, hc⟩ := h i hi
  exact ⟨b, off, ha, Nat.lt_of_lt_of_le hlt hb.size, by rw [hb.cell hlt]; exact hc⟩
theorem Rd.congr {w : World} {a : Option Addr} {n : Nat} {f g : Nat → Value} (h : Rd w a n f) (e : ∀ i, i < n → f i = g i) : Rd w a n g := by
  intro i hi
  obtain ⟨b, off, ha, hlt, hc⟩ := h i hi
  exact ⟨b, off, ha, hlt, by rw [hc, e i hi]⟩
theorem Rd.of_row {w : World} {b : Nat} {t : TypeId} {n : Nat} {f : Nat → Value} (h : w.rowIs b t n f) : Rd w (some ⟨b, 0, none⟩) n f := by
  intro i hi
  exact ⟨b, 0, rfl, h.lt, by rw [Nat.zero_add]; exact h.cell hi⟩
theorem Rd.zero (w : World) (a : Option Addr) (f : Nat → Value) : Rd w a 0 f := fun i hi => absurd hi (Nat.not_lt_zero i)
theorem Rd.le {w : World} {a : Option Addr} {n m : Nat} {f : Nat → Value} (h : Rd w a n f) (hm : m ≤ n) : Rd w a m f := fun i hi => h i (by omega)

/-- Two calls behind one another. -/
theorem below_trans {a b c : World} (h : Below a.heap.size a b) (k : Below b.heap.size b c) : Below a.heap.size a c := h.trans (k.mono h.size)
end Go.Proofs.Qxb6604019a
