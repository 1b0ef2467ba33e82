/-
  THE WALKS OF THE CALLEES of FnChooseNeverLosesAFlagByAnotherAlternative: zzBytes (23), b1ChooseTooBig (17), b1TasksInRange (18), b1CloneInts (19), b1CloneBytes (20), b1ToFlags (22). Seat b6604014a.
-/
import Derived.Test.Qxb6604014aRows
import Derived.Test.Qxb6604014aBase
namespace Go.Proofs.Qxb6604014a
open Go.RowKit
set_option linter.unusedVariables false

theorem Try.info3 : (Try.prog.info? 3).map (fun i => (i.zero, i.size, i.bytes)) = some (some (.int .i64 0), 1, 8) := by kernel_rfl
theorem Try.info5 : (Try.prog.info? 5).map (fun i => (i.zero, i.size, i.bytes)) = some (some (.int .u8 0), 1, 1) := by kernel_rfl
theorem Try.info50 : (Try.prog.info? 50).map (fun i => (i.zero, i.size, i.bytes)) = some (some (.int .u8 0), 1, 1) := by kernel_rfl

/-- The integers z 0, z 1, .. as values. -/
def iv (k : IntKind) (z : Nat → Int) : Nat → Value := fun i => .int k (z i)

theorem zz23 (a b : Option Addr) (n c m d : Nat) (x : Int) (hn : n ≤ maxLen) (hm : m ≤ maxLen) (w : World) :
    Calls Try.prog 23 #[.slice a n c, .slice b m d, .int .i64 x] w fun e w' => (∃ x, e = .returned (.bool x)) ∧ w = w' := by
  unfold maxLen at hn hm
  go_enter Try.func23, Try.ntmps23
  go_wp2
  all_goals (go_ret; exact ⟨⟨_, rfl⟩, rfl⟩)

theorem big17_yes (a b : Option Addr) (n c m d : Nat) (hn : n ≤ maxLen) (hm : m ≤ maxLen) (h : 65536 < n ∨ 65536 < m) (w : World) :
    Calls Try.prog 17 #[.slice a n c, .slice b m d] w fun e w' => e = .returned (.bool true) ∧ w = w' := by
  unfold maxLen at hn hm
  by_cases h1 : 65536 < n
  · clear h
    go_enter Try.func17, Try.ntmps17
    go_wp2
    go_ret
    exact ⟨rfl, rfl⟩
  · have h2 : 65536 < m := by omega
    clear h
    go_enter Try.func17, Try.ntmps17
    go_wp2
    go_ret
    exact ⟨rfl, rfl⟩
theorem big17_no (a b : Option Addr) (n c m d : Nat) (hn : n ≤ 65536) (hm : m ≤ 65536) (w : World) :
    Calls Try.prog 17 #[.slice a n c, .slice b m d] w fun e w' => e = .returned (.bool false) ∧ w = w' := by
  have hs : decide ((1048576 : Int) < 8 * (n : Int) + (m : Int)) = false := by simp; omega
  go_enter Try.func17, Try.ntmps17
  go_wp2
  go_ret
  exact ⟨rfl, rfl⟩

/-- Every task id indexes m kinds. -/
def InRange (n : Nat) (t : Nat → Int) (m : Nat) : Prop := ∀ j, j < n → 0 ≤ t j ∧ t j < m

set_option maxHeartbeats 400000 in
theorem range18 (a : Option Addr) (n c m : Nat) (t : Nat → Int) (hn : n ≤ 65536) (hm : m ≤ 65536) (w : World) (h : Rd w a n (iv .i64 t)) :
    Calls Try.prog 18 #[.slice a n c, .int .i64 m] w fun e w' => (e = .returned (.bool true) ∧ InRange n t m ∨ e = .returned (.bool false) ∧ ¬ InRange n t m) ∧ w = w' := by
  have H : Hid _ := h
  clear h
  go_enter Try.func18, Try.ntmps18
  go_wp2
  go_loop [5] (fun i => ∃ k : Nat, k ≤ n ∧ i = .int .i64 k ∧ Hid (InRange k t m)) (fun i => n - (intOf i).toNat)
  case atStart => exact ⟨0, Nat.zero_le _, rfl, fun j hj => absurd hj (Nat.not_lt_zero j)⟩
  case round =>
    obtain ⟨k, hk, rfl, HK⟩ := hrel
    by_cases hlt : k < n
    · obtain ⟨b, off, rfl, hb, hc⟩ := H.out k hlt
      obtain ⟨x, hx⟩ : ∃ x, t k = x := ⟨_, rfl⟩
      have hc' : w.cell? ⟨b, off + k, none⟩ = some (.int .i64 x) := by rw [← hx]; exact hc
      have HX : Hid _ := hx
      clear hc hx
      by_cases hd : 0 ≤ x ∧ x < m
      · have HK' : Hid (InRange (k + 1) t m) := by
          intro j hj
          by_cases e : j = k
          · subst e; rw [HX.out]; exact hd
          · exact HK.out j (by omega)
        obtain ⟨hd1, hd2⟩ := hd
        go_wp2
        go_round
        case rel => exact ⟨k + 1, by omega, by go_num, HK'⟩
        case measure => simp [intOf]; omega
      · have HN : Hid (¬ InRange n t m) := by
          intro hI
          exact hd (HX.out ▸ hI k hlt)
        by_cases h0 : x < 0
        · clear hd
          go_wp2
          go_ret
          exact ⟨Or.inr ⟨rfl, HN.out⟩, rfl⟩
        · have h1 : (m : Int) ≤ x := by omega
          have h2 : 0 ≤ x := by omega
          clear hd h0
          go_wp2
          go_ret
          exact ⟨Or.inr ⟨rfl, HN.out⟩, rfl⟩
    · obtain rfl : k = n := by omega
      go_wp2
      go_ret
      exact ⟨Or.inl ⟨rfl, HK.out⟩, rfl⟩

/-! ### copies -/
/-- A copy: a nil slice stays nil; the copy reads as the original; nothing that was there has turned. -/
def Copied (w : World) (n : Nat) (f : Nat → Value) (e : Ending) (w' : World) : Prop :=
  (∃ a' c', e = .returned (.slice a' n c') ∧ Rd w' a' n f) ∧ Below w.heap.size w w'

theorem fill_step {w wr : World} {B n k : Nat} {t : TypeId} {f : Nat → Value} {z : Value} (h : wr.rowIs B t n (fun j => if j < k then f j else z)) :
    (wr.setCell ⟨B, k, none⟩ (f k)).rowIs B t n (fun j => if j < k + 1 then f j else z) := by
  refine (h.set k (f k)).congr fun j hj => ?_
  by_cases e : j = k
  · subst e; simp
  · by_cases l : j < k
    · simp [e, l, Nat.lt_succ_of_lt l]
    · have : ¬ j < k + 1 := by omega
      simp [e, l, this]
theorem fill_start (w : World) (z : Value) (n : Nat) (t : TypeId) (f : Nat → Value) : (w.alloc (.cells (madeCells #[z] n) t)).rowIs w.heap.size t n (fun j => if j < 0 then f j else z) :=
  (World.rowIs_made w z n t).congr fun j _ => by simp
theorem fill_end {w : World} {B n : Nat} {t : TypeId} {f : Nat → Value} {z : Value} (h : w.rowIs B t n (fun j => if j < n then f j else z)) : w.rowIs B t n f :=
  h.congr fun j hj => by simp [hj]

set_option maxHeartbeats 400000 in
theorem clone19 (a : Option Addr) (n c : Nat) (z : Nat → Int) (w : World) (hn : n ≤ 65536) (h : Rd w a n (iv .i64 z)) :
    Calls Try.prog 19 #[.slice a n c] w (Copied w n (iv .i64 z)) := by
  have H : Hid _ := h
  clear h
  have hnil := fun w => Lib.run_eql_slice_nil (P := Try.prog) w 35 3 a n c 0 0 Try.underlying35
  have hmk := run_make_row' (P := Try.prog) 35 3 (.int .i64 0) 8 Try.underlying35 Try.info3 rfl .i64 .i64 n (by omega) (by omega)
  cases a with
  | none =>
    obtain rfl : n = 0 := by
      rcases Nat.eq_zero_or_pos n with h | h
      · exact h
      · obtain ⟨b, off, e, _⟩ := H.out 0 h
        cases e
    go_enter Try.func19, Try.ntmps19
    go_wp2
    go_ret
    exact ⟨⟨_, _, rfl, Rd.zero _ _ _⟩, Below.refl _ _⟩
  | some x =>
    go_enter Try.func19, Try.ntmps19
    go_wp2
    go_loopw [4] (fun i wr => ∃ k : Nat, k ≤ n ∧ i = .int .i64 k ∧ wr.rowIs w.heap.size 3 n (fun j => if j < k then iv .i64 z j else .int .i64 0) ∧ Below w.heap.size w wr) (fun i _ => n - (intOf i).toNat)
    case atStart => exact ⟨0, Nat.zero_le _, rfl, fill_start w _ n 3 _, (Below.refl _ _).alloc (Nat.le_refl _) _⟩
    case round =>
      obtain ⟨k, hk, rfl, hrow, hbel⟩ := hrel
      have HB : Hid _ := hbel
      by_cases hlt : k < n
      · obtain ⟨b, off, e, hb, hc⟩ := H.out k hlt
        obtain rfl := Option.some.inj e
        have hcell : wr.cell? ⟨b, off + k, none⟩ = some (.int .i64 (z k)) := by rw [hbel.cell hb]; exact hc
        have hfr : wr.frozen? ⟨w.heap.size, k, none⟩ = false := hrow.frozen k
        obtain ⟨v0, hce⟩ : ∃ v, wr.cell? ⟨w.heap.size, k, none⟩ = some v := ⟨_, hrow.cell hlt⟩
        have HR : Hid _ := hrow
        clear hrow hbel hc
        go_wp2
        go_roundw
        case rel => exact ⟨k + 1, by omega, by go_num, fill_step (w := w) HR.out, HB.out.setCell (Nat.le_refl _) _⟩
        case measure => simp [intOf]; omega
      · obtain rfl : k = n := by omega
        have HR : Hid _ := hrow
        clear hrow hbel
        go_wp2
        go_ret
        exact ⟨⟨_, _, rfl, Rd.of_row (fill_end HR.out)⟩, HB.out⟩

set_option maxHeartbeats 400000 in
theorem clone20 (a : Option Addr) (n c : Nat) (z : Nat → Int) (w : World) (hn : n ≤ 65536) (h : Rd w a n (iv .u8 z)) :
    Calls Try.prog 20 #[.slice a n c] w (Copied w n (iv .u8 z)) := by
  have H : Hid _ := h
  clear h
  have hnil := fun w => Lib.run_eql_slice_nil (P := Try.prog) w 36 5 a n c 0 0 Try.underlying36
  have hmk := run_make_row' (P := Try.prog) 36 5 (.int .u8 0) 1 Try.underlying36 Try.info5 rfl .i64 .i64 n (by omega) (by omega)
  cases a with
  | none =>
    obtain rfl : n = 0 := by
      rcases Nat.eq_zero_or_pos n with h | h
      · exact h
      · obtain ⟨b, off, e, _⟩ := H.out 0 h
        cases e
    go_enter Try.func20, Try.ntmps20
    go_wp2
    go_ret
    exact ⟨⟨_, _, rfl, Rd.zero _ _ _⟩, Below.refl _ _⟩
  | some x =>
    go_enter Try.func20, Try.ntmps20
    go_wp2
    go_loopw [4] (fun i wr => ∃ k : Nat, k ≤ n ∧ i = .int .i64 k ∧ wr.rowIs w.heap.size 5 n (fun j => if j < k then iv .u8 z j else .int .u8 0) ∧ Below w.heap.size w wr) (fun i _ => n - (intOf i).toNat)
    case atStart => exact ⟨0, Nat.zero_le _, rfl, fill_start w _ n 5 _, (Below.refl _ _).alloc (Nat.le_refl _) _⟩
    case round =>
      obtain ⟨k, hk, rfl, hrow, hbel⟩ := hrel
      have HB : Hid _ := hbel
      by_cases hlt : k < n
      · obtain ⟨b, off, e, hb, hc⟩ := H.out k hlt
        obtain rfl := Option.some.inj e
        have hcell : wr.cell? ⟨b, off + k, none⟩ = some (.int .u8 (z k)) := by rw [hbel.cell hb]; exact hc
        have hfr : wr.frozen? ⟨w.heap.size, k, none⟩ = false := hrow.frozen k
        obtain ⟨v0, hce⟩ : ∃ v, wr.cell? ⟨w.heap.size, k, none⟩ = some v := ⟨_, hrow.cell hlt⟩
        have HR : Hid _ := hrow
        clear hrow hbel hc
        go_wp2
        go_roundw
        case rel => exact ⟨k + 1, by omega, by go_num, fill_step (w := w) HR.out, HB.out.setCell (Nat.le_refl _) _⟩
        case measure => simp [intOf]; omega
      · obtain rfl : k = n := by omega
        have HR : Hid _ := hrow
        clear hrow hbel
        go_wp2
        go_ret
        exact ⟨⟨_, _, rfl, Rd.of_row (fill_end HR.out)⟩, HB.out⟩

set_option maxHeartbeats 400000 in
theorem flags22 (a : Option Addr) (n c : Nat) (z : Nat → Int) (w : World) (hn : n ≤ 65536) (h : Rd w a n (iv .u8 z)) :
    Calls Try.prog 22 #[.slice a n c] w (Copied w n (iv .u8 z)) := by
  have H : Hid _ := h
  clear h
  have hmk := run_make_row' (P := Try.prog) 43 50 (.int .u8 0) 1 Try.underlying43 Try.info50 rfl .i64 .i64 n (by omega) (by omega)
  go_enter Try.func22, Try.ntmps22
  go_wp2
  go_loopw [4] (fun i wr => ∃ k : Nat, k ≤ n ∧ i = .int .i64 k ∧ wr.rowIs w.heap.size 50 n (fun j => if j < k then iv .u8 z j else .int .u8 0) ∧ Below w.heap.size w wr) (fun i _ => n - (intOf i).toNat)
  case atStart => exact ⟨0, Nat.zero_le _, rfl, fill_start w _ n 50 _, (Below.refl _ _).alloc (Nat.le_refl _) _⟩
  case round =>
    obtain ⟨k, hk, rfl, hrow, hbel⟩ := hrel
    have HB : Hid _ := hbel
    by_cases hlt : k < n
    · obtain ⟨b, off, rfl, hb, hc⟩ := H.out k hlt
      have hcell : wr.cell? ⟨b, off + k, none⟩ = some (.int .u8 (z k)) := by rw [hbel.cell hb]; exact hc
      have hfr : wr.frozen? ⟨w.heap.size, k, none⟩ = false := hrow.frozen k
      obtain ⟨v0, hce⟩ : ∃ v, wr.cell? ⟨w.heap.size, k, none⟩ = some v := ⟨_, hrow.cell hlt⟩
      have HR : Hid _ := hrow
      clear hrow hbel hc
      go_wp2
      go_roundw
      case rel => exact ⟨k + 1, by omega, by go_num, fill_step (w := w) HR.out, HB.out.setCell (Nat.le_refl _) _⟩
      case measure => simp [intOf]; omega
    · obtain rfl : k = n := by omega
      have HR : Hid _ := hrow
      clear hrow hbel
      go_wp2
      go_ret
      exact ⟨⟨_, _, rfl, Rd.of_row (fill_end HR.out)⟩, HB.out⟩
end Go.Proofs.Qxb6604014a
