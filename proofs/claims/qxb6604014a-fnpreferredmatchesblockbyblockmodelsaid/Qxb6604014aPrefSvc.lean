/-
  THE WALKS OF FnPreferredMatchesBlockByBlockModel's services: b1SvcRecoverable (28), b1SvcRetriable (29), ZZMakeService (26), b1ToServices (13), (Service).recoverable (34), .retriable (36), the two closures of preferred (33, 35). Seat b6604014a.
-/
import Derived.Test.Qxb6604014aPrefCopy
import Derived.Test.Qxb6604014aChoose
import Derived.Deep.RegionHeld3
namespace Go.Proofs.Qxb6604014a
open Go.RowKit
set_option linter.unusedVariables false

def recV (o : Int) (l : Bool) : Bool := l || (bits .and .u8 o 2 != 0)
def retV (o : Int) : Bool := bits .and .u8 o 1 != 0

set_option maxHeartbeats 400000 in
theorem rec28 (o : Int) (l : Bool) (w : World) : Calls Try.prog 28 #[.agg #[.int .u8 o, .bool l]] w fun e w' => e = .returned (.bool (recV o l)) ∧ Below w.heap.size w w' := by
  unfold recV
  cases l
  · go_enter Try.func28, Try.ntmps28
    go_wp2
    go_ret
    exact ⟨rfl, (Below.refl _ _).alloc (Nat.le_refl _) _⟩
  · go_enter Try.func28, Try.ntmps28
    go_wp2
    go_ret
    exact ⟨rfl, (Below.refl _ _).alloc (Nat.le_refl _) _⟩
set_option maxHeartbeats 400000 in
theorem ret29 (o : Int) (l : Bool) (w : World) : Calls Try.prog 29 #[.agg #[.int .u8 o, .bool l]] w fun e w' => e = .returned (.bool (retV o)) ∧ Below w.heap.size w w' := by
  unfold retV
  go_enter Try.func29, Try.ntmps29
  go_wp2
  go_ret
  exact ⟨rfl, (Below.refl _ _).alloc (Nat.le_refl _) _⟩
set_option maxHeartbeats 400000 in
theorem make26 (o : Int) (l : Bool) (w : World) : Calls Try.prog 26 #[.int .u8 o, .bool l] w fun e w' => e = .returned (.agg #[.int .u8 o, .bool l]) ∧ Below w.heap.size w w' := by
  go_enter Try.func26, Try.ntmps26
  go_wp2
  exact bodyPost_ret (v := .agg #[.int .u8 o, .bool l]) (by simp [results, Try.results26, go_sem]) rfl ⟨rfl, (Below.refl _ _).alloc (Nat.le_refl _) _⟩
theorem and_or_fin : ∀ x : Fin 256, bits .and .u8 (bits .or .u8 (x.val : Int) 2) 2 = 2 := by decide +kernel
theorem and_or (x : Int) (h0 : 0 ≤ x) (h1 : x ≤ 255) : bits .and .u8 (bits .or .u8 x 2) 2 = 2 := by
  obtain ⟨x, rfl⟩ := Int.eq_ofNat_of_zero_le h0
  exact and_or_fin ⟨x, by omega⟩
set_option maxHeartbeats 400000 in
theorem rec34 (o : Int) (l : Bool) (h0 : 0 ≤ o) (h1 : o ≤ 255) (w : World) : Calls Try.prog 34 #[.agg #[.int .u8 o, .bool l]] w fun e w' => e = .returned (.bool (recV o l)) ∧ Below w.heap.size w w' := by
  unfold recV
  have ha := and_or o h0 h1
  cases l
  · go_enter Try.func34, Try.ntmps34
    go_wp2
    go_ret
    exact ⟨rfl, ((Below.refl _ _).alloc (Nat.le_refl _) _).alloc (by simp) _⟩
  · go_enter Try.func34, Try.ntmps34
    go_wp2
    go_ret
    exact ⟨rfl, ((Below.refl _ _).alloc (Nat.le_refl _) _).alloc (by simp) _⟩
set_option maxHeartbeats 400000 in
theorem ret36 (o : Int) (l : Bool) (w : World) : Calls Try.prog 36 #[.agg #[.int .u8 o, .bool l]] w fun e w' => e = .returned (.bool (retV o)) ∧ Below w.heap.size w w' := by
  unfold retV
  go_enter Try.func36, Try.ntmps36
  go_wp2
  go_ret
  exact ⟨rfl, (Below.refl _ _).alloc (Nat.le_refl _) _⟩
set_option maxHeartbeats 400000 in
theorem clo35 (b : Nat) (a : Option Addr) (n c : Nat) (f : Nat → Int) (g : Nat → Bool) (x : Int) (w : World) (hcell : w.cell? ⟨b, 0, none⟩ = some (.slice a n c)) (h : Rd2 w a n (iv .u8 f) (bv g)) (x0 : 0 ≤ x) (x1 : x < n) :
   Calls Try.prog 35 #[.int .i64 x, .pointer (some ⟨b, 0, none⟩)] w fun e w' => e = .returned (.bool (!retV (f x.toNat))) ∧ Below w.heap.size w w' := by
  obtain ⟨b1, off, rfl, hb, hc, hc'⟩ := h x.toNat (by omega)
  clear h
  unfold iv at hc
  unfold bv at hc'
  go_enter Try.func35, Try.ntmps35
  go_wp2_with (go_at_call 36; refine (ret36 _ _ _).mono ?_; rintro e w' ⟨rfl, hb1⟩)
  go_ret
  exact ⟨rfl, hb1⟩

set_option maxHeartbeats 400000 in
theorem clo33 (b : Nat) (a : Option Addr) (n c : Nat) (f : Nat → Int) (g : Nat → Bool) (x : Int) (w : World) (hcell : w.cell? ⟨b, 0, none⟩ = some (.slice a n c)) (h : Rd2 w a n (iv .u8 f) (bv g)) (x0 : 0 ≤ x) (x1 : x < n) (y0 : 0 ≤ f x.toNat) (y1 : f x.toNat ≤ 255) :
   Calls Try.prog 33 #[.int .i64 x, .pointer (some ⟨b, 0, none⟩)] w fun e w' => e = .returned (.bool (!recV (f x.toNat) (g x.toNat))) ∧ Below w.heap.size w w' := by
  obtain ⟨b1, off, rfl, hb, hc, hc'⟩ := h x.toNat (by omega)
  clear h
  unfold iv at hc
  unfold bv at hc'
  go_enter Try.func33, Try.ntmps33
  go_wp2_with (go_at_call 34; refine (rec34 _ _ y0 y1 _).mono ?_; rintro e w' ⟨rfl, hb1⟩)
  go_ret
  exact ⟨rfl, hb1⟩

set_option maxHeartbeats 1000000 in
theorem svcs13 (a : Option Addr) (n c : Nat) (f : Nat → Int) (g : Nat → Bool) (w : World) (hn : n ≤ 65536) (h : Rd2 w a n (iv .u8 f) (bv g)) :
    Calls Try.prog 13 #[.slice a n c] w fun e w' => (∃ a' c', e = .returned (.slice a' n c') ∧ Rd2 w' a' n (iv .u8 f) (bv g)) ∧ Below w.heap.size w w' := by
  have H := hide h
  clear h
  have hmk := run_make_two 31 52 _ 2 Try.underlying31 Try.info52 n (by omega) (by omega)
  generalize hcs : madeCells (Value.agg #[.int .u8 0, .bool false]).cells (n * 2) = cs at hmk
  have hsz : cs.size = n * 2 := by rw [← hcs, size_madeCells]
  have HSZ := hide hsz
  clear hsz hcs
  go_enter Try.func13, Try.ntmps13
  go_wp2
  clear hmk
  go_loopw [4] (fun i wr => ∃ (k : Nat) (z : Nat → Value), k ≤ n ∧ i = .int .i64 k ∧ wr.rowIs w.heap.size 52 (n * 2) (fun j => if j < k * 2 then zip2 (iv .u8 f) (bv g) j else z j) ∧ Below w.heap.size w wr) (fun i _ => n - (intOf i).toNat)
  case atStart =>
    obtain ⟨z, hz⟩ := fill2_start w cs 52 (n * 2) HSZ.out (iv .u8 f) (bv g)
    exact ⟨0, z, Nat.zero_le _, rfl, hz, (Below.refl _ _).alloc (Nat.le_refl _) _⟩
  case round =>
    obtain ⟨k, z, hk, rfl, hrow, hbel⟩ := hrel
    have HB := hide hbel
    have HR := hide hrow
    by_cases hlt : k < n
    · obtain ⟨b, off, rfl, hb, hc, hc'⟩ := H.out k hlt
      have h1 : wr.cell? ⟨b, off + k * 2, none⟩ = some (.int .u8 (f k)) := by rw [hbel.cell hb]; exact hc
      have h2 : wr.cell? ⟨b, off + k * 2 + 1, none⟩ = some (.bool (g k)) := by rw [hbel.cell hb]; exact hc'
      have hb' : b < wr.heap.size := Nat.lt_of_lt_of_le hb hbel.size
      have hgl := hrow.lt
      have f1 : wr.frozen? ⟨w.heap.size, k * 2, none⟩ = false := hrow.frozen _
      have f2 : wr.frozen? ⟨w.heap.size, k * 2 + 1, none⟩ = false := hrow.frozen _
      obtain ⟨v0, e1⟩ : ∃ v, wr.cell? ⟨w.heap.size, k * 2, none⟩ = some v := ⟨_, hrow.cell (by omega)⟩
      obtain ⟨v1, e2⟩ : ∃ v, wr.cell? ⟨w.heap.size, k * 2 + 1, none⟩ = some v := ⟨_, hrow.cell (by omega)⟩
      have k0 : (0 : Int) ≤ (k : Int) := by omega
      have kn : (k : Int) < (n : Int) := by omega
      clear hrow hbel hc hc'
      go_wp2_with fail
      have hne : b ≠ w.heap.size := by omega
      have hne' : w.heap.size ≠ b := by omega
      go_region_held3 (fun w' => w'.cell? ⟨b, off + k * 2, none⟩ = some (.int .u8 (f k)) ∧ w'.cell? ⟨b, off + k * 2 + 1, none⟩ = some (.bool (g k))) (first | (refine ⟨?_, ?_⟩ <;> (rw [hbb.cell (by simpa using hb')]; simpa)) | (simp [*, go_sem]; done) | go_keep)
        (first | (go_at_call 26; refine (make26 _ _ _).mono ?_; rintro e w' ⟨rfl, hbb⟩; (have g1 : w'.frozen? ⟨w.heap.size, k * 2, none⟩ = false := by rw [hbb.frozen (by simpa using hgl)]; simpa); (have g2 : w'.frozen? ⟨w.heap.size, k * 2 + 1, none⟩ = false := by rw [hbb.frozen (by simpa using hgl)]; simpa); (have g3 : w'.cell? ⟨w.heap.size, k * 2, none⟩ = some v0 := by rw [hbb.cell (by simpa using hgl)]; simpa); (have g4 : w'.cell? ⟨w.heap.size, k * 2 + 1, none⟩ = some v1 := by rw [hbb.cell (by simpa using hgl)]; simpa)))
      have R : Hid (((w'.setCell ⟨w.heap.size, k * 2, none⟩ (.int .u8 (f k))).setCell ⟨w.heap.size, k * 2 + 1, none⟩ (.bool (g k))).rowIs w.heap.size 52 (n * 2) (fun j => if j < (k + 1) * 2 then zip2 (iv .u8 f) (bv g) j else z j)) :=
        fill2_step (k := k) (f := iv .u8 f) (g := bv g) (z := z) (HR.out.of_block (hbb.block _ (by simpa using hgl)))
      have HB2 := hide (HB.out.drew.trans (hbb.mono HB.out.size))
      clear hbb g1 g2 g3 g4 e1 e2 f1 f2 h1 h2
      go_wp2_with fail
      go_roundw
      case rel => exact ⟨k + 1, z, by omega, by go_num, R.out, (HB2.out.setCell (Nat.le_refl _) _).setCell (Nat.le_refl _) _⟩
      case measure => simp [intOf]; omega
    · obtain rfl : k = n := by omega
      clear hrow hbel
      go_wp2
      go_ret
      exact ⟨⟨_, _, rfl, fill2_end HR.out⟩, HB.out⟩
end Go.Proofs.Qxb6604014a
