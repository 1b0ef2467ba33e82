/-
  THE WALKS OF THE CALLEES of the three laws of readHeader: pbb1First (13), slices.Index (26), pbb1Earlier (12), pbb1HasRepeat (17), pbb1Clone (10), pbb1TrimBOM (11), strings.TrimPrefix (25), pbb1Bytes (9). Seat b6604019a.
-/
import Derived.Test.Qxb6604019aRows
import Derived.Test.Qxb6604019aBase
import Derived.Deep.QuietTactic
import Derived.BigQuiet
namespace Go.Proofs.Qxb6604019a
open Go.RowKit
set_option linter.unusedVariables false

theorem Try.info3 : (Try.prog.info? 3).map (fun i => (i.zero, i.size, i.bytes)) = some (some (.int .i64 0), 1, 8) := by kernel_rfl
theorem Try.info9 : (Try.prog.info? 9).map (fun i => (i.zero, i.size, i.bytes)) = some (some (.string ⟨#[]⟩), 1, 16) := by kernel_rfl

def iv (k : IntKind) (z : Nat → Int) : Nat → Value := fun i => .int k (z i)
/-- The strings s 0, s 1, .. as values. -/
def sv (s : Nat → ByteArray) : Nat → Value := fun i => .string (s i)
/-- Two strings are the same, as the model asks. -/
def seq (a b : ByteArray) : Bool := a.toList == b.toList
theorem seq_iff {a b : ByteArray} : seq a b = true ↔ a = b := by
  unfold seq
  constructor
  · intro h
    have e := beq_iff_eq.1 h
    rw [ByteArray.toList_eq, ByteArray.toList_eq] at e
    cases a
    cases b
    simpa using e
  · rintro rfl; simp

/-- r is the least i below n with p i, or -1. -/
def IsFirst (n : Nat) (p : Nat → Bool) (r : Int) : Prop := (∃ i, i < n ∧ r = (i : Int) ∧ p i = true ∧ ∀ j, j < i → p j = false) ∨ (r = -1 ∧ ∀ j, j < n → p j = false)
def fst (p : Nat → Bool) : Nat → Int
  | 0 => -1
  | n + 1 => if 0 ≤ fst p n then fst p n else if p n = true then (n : Int) else -1
theorem fst_is (p : Nat → Bool) (n : Nat) : IsFirst n p (fst p n) := by
  induction n with
  | zero => exact Or.inr ⟨rfl, fun j hj => absurd hj (Nat.not_lt_zero j)⟩
  | succ n ih =>
    unfold fst
    rcases ih with ⟨i, hi, e, h1, h2⟩ | ⟨e, h1⟩
    · rw [if_pos (by omega)]
      exact Or.inl ⟨i, by omega, e, h1, h2⟩
    · rw [if_neg (by omega)]
      cases hp : p n with
      | true => rw [if_pos rfl]; exact Or.inl ⟨n, by omega, rfl, hp, h1⟩
      | false =>
        rw [if_neg (by simp)]
        refine Or.inr ⟨rfl, fun j hj => ?_⟩
        by_cases e' : j = n
        · subst e'; exact hp
        · exact h1 j (by omega)
theorem IsFirst.eq {n : Nat} {p : Nat → Bool} {r q : Int} (h : IsFirst n p r) (k : IsFirst n p q) : r = q := by
  rcases h with ⟨i, hi, e, h1, h2⟩ | ⟨e, h1⟩ <;> rcases k with ⟨j, hj, e', k1, k2⟩ | ⟨e', k1⟩
  · have : i = j := by
      rcases Nat.lt_trichotomy i j with l | l | l
      · have := k2 i l; rw [h1] at this; cases this
      · exact l
      · have := h2 j l; rw [k1] at this; cases this
    omega
  · have := k1 i hi; rw [h1] at this; cases this
  · have := h1 j hj; rw [k1] at this; cases this
  · omega

set_option maxHeartbeats 400000 in
theorem first13 (a : Option Addr) (n c : Nat) (f : Nat → ByteArray) (s : ByteArray) (w : World) (hn : n ≤ 65536) (h : Rd w a n (sv f)) :
    Calls Try.prog 13 #[.slice a n c, .string s] w fun e w' => e = .returned (.int .i64 (fst (fun i => seq (f i) s) n)) ∧ w = w' := by
  have H := hide h
  clear h
  obtain ⟨r, hr⟩ : ∃ r, fst (fun i => seq (f i) s) n = r := ⟨_, rfl⟩
  have HR : Hid (∀ q, IsFirst n (fun i => seq (f i) s) q → q = r) := fun q hq => by rw [← hr]; exact hq.eq (fst_is _ _)
  rw [hr]
  clear hr
  go_enter Try.func13, Try.ntmps13
  go_wp2_with fail
  go_loop [5] (fun i => ∃ k : Nat, k ≤ n ∧ i = .int .i64 k ∧ Hid (∀ j, j < k → seq (f j) s = false)) (fun i => n - (intOf i).toNat)
  case atStart => exact ⟨0, Nat.zero_le _, rfl, fun j hj => absurd hj (Nat.not_lt_zero j)⟩
  case round =>
    obtain ⟨k, hk, rfl, HK⟩ := hrel
    by_cases hlt : k < n
    · obtain ⟨b, off, rfl, hb, hc⟩ := H.out k hlt
      unfold sv at hc
      cases hs : seq (f k) s with
      | true =>
        have hs' : ((f k).toList == s.toList) = true := hs
        have HE := hide (HR.out k (Or.inl ⟨k, hlt, rfl, hs, HK.out⟩))
        clear hs
        go_wp2_with fail
        go_ret
        exact ⟨by rw [← HE.out]; rfl, rfl⟩
      | false =>
        have hs' : ((f k).toList == s.toList) = false := hs
        have HK' : Hid (∀ j, j < k + 1 → seq (f j) s = false) := by
          intro j hj
          by_cases e : j = k
          · subst e; exact hs
          · exact HK.out j (by omega)
        clear hs
        go_wp2_with fail
        go_round
        case rel => exact ⟨k + 1, by omega, by go_num, HK'⟩
        case measure => simp [intOf]; omega
    · obtain rfl : k = n := by omega
      have HE := hide (HR.out (-1) (Or.inr ⟨rfl, HK.out⟩))
      go_wp2_with fail
      go_ret
      exact ⟨by rw [← HE.out]; rfl, rfl⟩

set_option maxHeartbeats 400000 in
theorem index26 (a : Option Addr) (n c : Nat) (f : Nat → ByteArray) (s : ByteArray) (w : World) (hn : n ≤ 65536) (h : Rd w a n (sv f)) :
    Calls Try.prog 26 #[.slice a n c, .string s] w fun e w' => e = .returned (.int .i64 (fst (fun i => seq (f i) s) n)) ∧ w = w' := by
  have H := hide h
  clear h
  obtain ⟨r, hr⟩ : ∃ r, fst (fun i => seq (f i) s) n = r := ⟨_, rfl⟩
  have HR : Hid (∀ q, IsFirst n (fun i => seq (f i) s) q → q = r) := fun q hq => by rw [← hr]; exact hq.eq (fst_is _ _)
  rw [hr]
  clear hr
  go_enter Try.func26, Try.ntmps26
  go_wp2_with fail
  go_loop [5, 8] (fun _ i => ∃ k : Nat, k ≤ n ∧ i = .int .i64 k ∧ Hid (∀ j, j < k → seq (f j) s = false)) (fun _ i => n - (intOf i).toNat)
  case atStart => exact ⟨0, Nat.zero_le _, rfl, fun j hj => absurd hj (Nat.not_lt_zero j)⟩
  case round =>
    obtain ⟨k, hk, rfl, HK⟩ := hrel
    by_cases hlt : k < n
    · obtain ⟨b, off, rfl, hb, hc⟩ := H.out k hlt
      unfold sv at hc
      have dk : decide ((k : Int) < n) = true := by simp; omega
      cases hs : seq (f k) s with
      | true =>
        have hs' : (s.toList == (f k).toList) = true := by rw [seq_iff.1 hs]; simp
        have HE := hide (HR.out k (Or.inl ⟨k, hlt, rfl, hs, HK.out⟩))
        clear hs
        go_wp2_with fail
        go_ret
        exact ⟨by rw [← HE.out]; rfl, rfl⟩
      | false =>
        have hs' : (s.toList == (f k).toList) = false := by rw [Bool.beq_comm]; exact hs
        have HK' : Hid (∀ j, j < k + 1 → seq (f j) s = false) := by
          intro j hj
          by_cases e : j = k
          · subst e; exact hs
          · exact HK.out j (by omega)
        clear hs
        go_wp2_with fail
        go_round
        case rel => exact ⟨k + 1, by omega, by go_num, HK'⟩
        case measure => simp [intOf]; omega
    · obtain rfl : k = n := by omega
      have dk : decide ((k : Int) < k) = false := by simp
      have HE := hide (HR.out (-1) (Or.inr ⟨rfl, HK.out⟩))
      go_wp2_with fail
      go_ret
      exact ⟨by rw [← HE.out]; rfl, rfl⟩

/-- Some j < k has f j = f k. -/
def ear (f : Nat → ByteArray) (k : Nat) : Bool := (List.range k).any fun j => seq (f j) (f k)
theorem ear_iff {f : Nat → ByteArray} {k : Nat} : ear f k = true ↔ ∃ j, j < k ∧ f j = f k := by
  unfold ear
  rw [List.any_eq_true]
  constructor
  · rintro ⟨j, hj, h⟩; exact ⟨j, List.mem_range.1 hj, seq_iff.1 h⟩
  · rintro ⟨j, hj, h⟩; exact ⟨j, List.mem_range.2 hj, seq_iff.2 h⟩
theorem ear_true {f : Nat → ByteArray} {k j : Nat} (hj : j < k) (h : seq (f j) (f k) = true) : ear f k = true := ear_iff.2 ⟨j, hj, seq_iff.1 h⟩
theorem ear_false {f : Nat → ByteArray} {k : Nat} (h : ∀ j, j < k → seq (f j) (f k) = false) : ear f k = false := by
  cases e : ear f k with
  | false => rfl
  | true =>
    obtain ⟨j, hj, h'⟩ := ear_iff.1 e
    have := h j hj
    rw [seq_iff.2 h'] at this
    cases this

theorem drewN_below {B : Nat} {a b : World} (h : Below B a b) (n : Nat) : Below B a (b.drewN n) := ⟨h.os, h.tape, h.output, h.size, h.block⟩

set_option maxHeartbeats 400000 in
theorem earlier12 (a : Option Addr) (n c k : Nat) (f : Nat → ByteArray) (w : World) (hn : n ≤ 65536) (hk : k < n) (h : Rd w a n (sv f)) :
    Calls Try.prog 12 #[.slice a n c, .int .i64 k] w fun e w' => e = .returned (.bool (ear f k)) ∧ Below w.heap.size w w' := by
  have H := hide h
  clear h
  obtain ⟨b, off, rfl, hb, hck⟩ := H.out k hk
  unfold sv at hck
  obtain ⟨r, hr⟩ : ∃ r, ear f k = r := ⟨_, rfl⟩
  have HR := hide hr
  rw [hr]
  clear hr
  go_enter Try.func12, Try.ntmps12
  go_wp2_with fail
  go_loopw [5] (fun i wr => ∃ q : Nat, q ≤ k ∧ i = .int .i64 q ∧ Hid (∀ j, j < q → seq (f j) (f k) = false) ∧ ∃ m, wr = w.drewN m) (fun i _ => k - (intOf i).toNat)
  case atStart => exact ⟨0, Nat.zero_le _, rfl, fun j hj => absurd hj (Nat.not_lt_zero j), 0, rfl⟩
  case round =>
    obtain ⟨q, hq, rfl, HK, m, rfl⟩ := hrel
    by_cases hlt : q < k
    · obtain ⟨b', off', e', _, hcq⟩ := H.out q (by omega)
      obtain ⟨rfl, rfl⟩ : b' = b ∧ off' = off := by simpa using e'.symm
      unfold sv at hcq
      have k0 : (0 : Int) ≤ (k : Int) := by omega
      have k1 : (k : Int) < (n : Int) := by omega
      have q0 : (0 : Int) ≤ (q : Int) := by omega
      have q1 : (q : Int) < (n : Int) := by omega
      clear e'
      cases hs : seq (f q) (f k) with
      | true =>
        have hs' : ((f q).toList == (f k).toList) = true := hs
        have HE := hide (ear_true hlt hs)
        clear hs
        go_wp2_with fail
        go_quiet (fail)
        go_wp2_with fail
        go_ret
        exact ⟨by rw [← HR.out, HE.out]; rfl, drewN_below (drewN_below (Below.refl _ _) _) _⟩
      | false =>
        have hs' : ((f q).toList == (f k).toList) = false := hs
        have HK' : Hid (∀ j, j < q + 1 → seq (f j) (f k) = false) := by
          intro j hj
          by_cases e : j = q
          · subst e; exact hs
          · exact HK.out j (by omega)
        clear hs
        go_wp2_with fail
        go_quiet (fail)
        go_wp2_with fail
        go_roundw
        case rel => exact ⟨q + 1, by omega, by go_num, HK', _, rfl⟩
        case measure => simp [intOf]; omega
    · obtain rfl : q = k := by omega
      have HE := hide (ear_false HK.out)
      go_wp2_with fail
      go_ret
      exact ⟨by rw [← HR.out, HE.out]; rfl, drewN_below (Below.refl _ _) _⟩

/-! ### copies: in a block of their own -/
/-- A slice of n elements of one cell in memory that is not older than B; its block is one row. -/
def Rw (B : Nat) (w : World) (a : Option Addr) (t : TypeId) (n : Nat) (f : Nat → Value) : Prop := (a = none ∧ n = 0) ∨ ∃ g, B ≤ g ∧ a = some ⟨g, 0, none⟩ ∧ w.rowIs g t n f
theorem Rw.rd {B : Nat} {w : World} {a : Option Addr} {t : TypeId} {n : Nat} {f : Nat → Value} (h : Rw B w a t n f) : Rd w a n f := by
  rcases h with ⟨rfl, rfl⟩ | ⟨g, _, rfl, h⟩
  · exact Rd.zero _ _ _
  · exact Rd.of_row h
theorem Rw.below {B : Nat} {w w' : World} {a : Option Addr} {t : TypeId} {n : Nat} {f : Nat → Value} (h : Rw B w a t n f) (hb : Below w.heap.size w w') : Rw B w' a t n f := by
  rcases h with h | ⟨g, hg, rfl, h⟩
  · exact Or.inl h
  · exact Or.inr ⟨g, hg, rfl, h.of_block (hb.block g h.lt)⟩
theorem fill_step {wr : World} {B n k : Nat} {t : TypeId} {f : Nat → Value} {z : Value} (h : wr.rowIs B t n (fun j => if j < k then f j else z)) :
    (wr.setCell ⟨B, k, none⟩ (f k)).rowIs B t n (fun j => if j < k + 1 then f j else z) := by
  refine (h.set k (f k)).congr fun j hj => ?_
  by_cases e : j = k
  · subst e; simp
  · by_cases l : j < k
    · simp [e, l, Nat.lt_succ_of_lt l]
    · have : ¬ j < k + 1 := by omega
      simp [e, l, this]
theorem fill_start (w : World) (z : Value) (n : Nat) (t : TypeId) (f : Nat → Value) : (w.alloc (.cells (madeCells #[z] n) t)).rowIs w.heap.size t n (fun j => if j < 0 then f j else z) :=
  (World.rowIs_made w z n t).congr fun j _ => by simp
theorem fill_end {w : World} {B n : Nat} {t : TypeId} {f : Nat → Value} {z : Value} (h : w.rowIs B t n (fun j => if j < n then f j else z)) : w.rowIs B t n f :=
  h.congr fun j hj => by simp [hj]

set_option maxHeartbeats 400000 in
theorem clone10 (a : Option Addr) (n c : Nat) (f : Nat → ByteArray) (w : World) (hn : n ≤ 65536) (h : Rd w a n (sv f)) :
    Calls Try.prog 10 #[.slice a n c] w fun e w' => (∃ a' c', e = .returned (.slice a' n c') ∧ Rw w.heap.size w' a' 9 n (sv f)) ∧ Below w.heap.size w w' := by
  have H := hide h
  clear h
  have hnil := fun w => Lib.run_eql_slice_nil (P := Try.prog) w 22 9 a n c 0 0 Try.underlying22
  have hmk := run_make_row' (P := Try.prog) 22 9 (.string ⟨#[]⟩) 16 Try.underlying22 Try.info9 rfl .i64 .i64 n (by omega) (by omega)
  cases a with
  | none =>
    obtain rfl : n = 0 := by
      rcases Nat.eq_zero_or_pos n with h | h
      · exact h
      · obtain ⟨b, off, e, _⟩ := H.out 0 h
        cases e
    go_enter Try.func10, Try.ntmps10
    go_wp2
    go_ret
    exact ⟨⟨_, _, rfl, Or.inl ⟨rfl, rfl⟩⟩, Below.refl _ _⟩
  | some x =>
    go_enter Try.func10, Try.ntmps10
    go_wp2
    clear hmk
    go_loopw [4] (fun i wr => ∃ k : Nat, k ≤ n ∧ i = .int .i64 k ∧ wr.rowIs w.heap.size 9 n (fun j => if j < k then sv f j else .string ⟨#[]⟩) ∧ Below w.heap.size w wr) (fun i _ => n - (intOf i).toNat)
    case atStart => exact ⟨0, Nat.zero_le _, rfl, fill_start w _ n 9 _, (Below.refl _ _).alloc (Nat.le_refl _) _⟩
    case round =>
      obtain ⟨k, hk, rfl, hrow, hbel⟩ := hrel
      have HB := hide hbel
      by_cases hlt : k < n
      · obtain ⟨b, off, e, hb, hc⟩ := H.out k hlt
        obtain rfl := Option.some.inj e
        have hcell : wr.cell? ⟨b, off + k, none⟩ = some (.string (f k)) := by rw [hbel.cell hb]; exact hc
        have hfr : wr.frozen? ⟨w.heap.size, k, none⟩ = false := hrow.frozen k
        obtain ⟨v0, hce⟩ : ∃ v, wr.cell? ⟨w.heap.size, k, none⟩ = some v := ⟨_, hrow.cell hlt⟩
        have HR := hide hrow
        clear hrow hbel hc
        go_wp2
        go_roundw
        case rel => exact ⟨k + 1, by omega, by go_num, fill_step (f := sv f) HR.out, HB.out.setCell (Nat.le_refl _) _⟩
        case measure => simp [intOf]; omega
      · obtain rfl : k = n := by omega
        have HR := hide hrow
        clear hrow hbel
        go_wp2
        go_ret
        exact ⟨⟨_, _, rfl, Or.inr ⟨_, Nat.le_refl _, rfl, fill_end HR.out⟩⟩, HB.out⟩
end Go.Proofs.Qxb6604019a
