/-
  THE WALKS OF FnPreferredMatchesBlockByBlockModel's copies: b1CloneInts (19) once more with where the copy lies, b1CloneBlocks (9), b1ClonePairs (10), b1CloneSvcs (11). Seat b6604014a.
-/
import Derived.Test.Qxb6604014aPrefRead
namespace Go.Proofs.Qxb6604014a
open Go.RowKit
set_option linter.unusedVariables false

theorem Try.info47 : (Try.prog.info? 47).map (fun i => (i.zero, i.size, i.bytes)) = some (some (.agg #[.int .i64 0, .int .i64 0]), 2, 16) := by kernel_rfl
theorem Try.info49 : (Try.prog.info? 49).map (fun i => (i.zero, i.size, i.bytes)) = some (some (.agg #[.int .u8 0, .bool false]), 2, 2) := by kernel_rfl
theorem Try.info52 : (Try.prog.info? 52).map (fun i => (i.zero, i.size, i.bytes)) = some (some (.agg #[.int .u8 0, .bool false]), 2, 2) := by kernel_rfl
theorem Try.info35 : (Try.prog.info? 35).map (fun i => (i.zero, i.size, i.bytes)) = some (some (.slice none 0 0), 1, 24) := by kernel_rfl

/-! ### a slice in new memory: from block lo on -/
def RdF (lo : Nat) (w : World) (a : Option Addr) (n : Nat) (f : Nat → Value) : Prop :=
  ∀ i, i < n → ∃ b off, a = some ⟨b, off, none⟩ ∧ lo ≤ b ∧ b < w.heap.size ∧ w.cell? ⟨b, off + i, none⟩ = some (f i)
theorem RdF.rd {lo : Nat} {w : World} {a : Option Addr} {n : Nat} {f : Nat → Value} (h : RdF lo w a n f) : Rd w a n f := by
  intro i hi
  obtain ⟨b, off, ha, _, hlt, hc⟩ := h i hi
  exact ⟨b, off, ha, hlt, hc⟩
theorem RdF.mono {lo lo' : Nat} {w : World} {a : Option Addr} {n : Nat} {f : Nat → Value} (h : RdF lo w a n f) (hl : lo' ≤ lo) : RdF lo' w a n f := by
  intro i hi
  obtain ⟨b, off, ha, h1, hlt, hc⟩ := h i hi
  exact ⟨b, off, ha, by omega, hlt, hc⟩
theorem RdF.below {lo : Nat} {w w' : World} {a : Option Addr} {n : Nat} {f : Nat → Value} (h : RdF lo w a n f) (hb : Below w.heap.size w w') : RdF lo w' a n f := by
  intro i hi
  obtain ⟨b, off, ha, h1, hlt, hc⟩ := h i hi
  exact ⟨b, off, ha, h1, Nat.lt_of_lt_of_le hlt hb.size, by rw [hb.cell hlt]; exact hc⟩
theorem RdF.setCell {lo : Nat} {w : World} {a : Option Addr} {n : Nat} {f : Nat → Value} (h : RdF lo w a n f) {p : Addr} (hp : p.block < lo) (v : Value) : RdF lo (w.setCell p v) a n f := by
  intro i hi
  obtain ⟨b, off, ha, h1, hlt, hc⟩ := h i hi
  refine ⟨b, off, ha, h1, by simpa [World.setCell] using hlt, ?_⟩
  rw [World.cell?_of_block (w := w) (Below.heap_setCell w p v b (by omega))]
  exact hc
theorem RdF.of_row {lo : Nat} {w : World} {b : Nat} {t : TypeId} {n : Nat} {f : Nat → Value} (h : w.rowIs b t n f) (hl : lo ≤ b) : RdF lo w (some ⟨b, 0, none⟩) n f := by
  intro i hi
  exact ⟨b, 0, rfl, hl, h.lt, by rw [Nat.zero_add]; exact h.cell hi⟩
theorem RdF.zero (lo : Nat) (w : World) (a : Option Addr) (f : Nat → Value) : RdF lo w a 0 f := fun i hi => absurd hi (Nat.not_lt_zero i)

theorem rd_none {w : World} {n : Nat} {f : Nat → Value} (h : Rd w none n f) : n = 0 := by
  rcases Nat.eq_zero_or_pos n with h1 | h1
  · exact h1
  · obtain ⟨b, off, e, _⟩ := h 0 h1
    cases e
theorem rd2_none {w : World} {n : Nat} {f g : Nat → Value} (h : Rd2 w none n f g) : n = 0 := by
  rcases Nat.eq_zero_or_pos n with h1 | h1
  · exact h1
  · obtain ⟨b, off, e, _⟩ := h 0 h1
    cases e

set_option maxHeartbeats 400000 in
theorem clone19f (a : Option Addr) (n c : Nat) (z : Nat → Int) (w : World) (hn : n ≤ 65536) (h : Rd w a n (iv .i64 z)) :
    Calls Try.prog 19 #[.slice a n c] w fun e w' => (∃ a' c', e = .returned (.slice a' n c') ∧ RdF w.heap.size w' a' n (iv .i64 z)) ∧ Below w.heap.size w w' := by
  have H := hide h
  clear h
  have hnil := fun w => Lib.run_eql_slice_nil (P := Try.prog) w 35 3 a n c 0 0 Try.underlying35
  have hmk := run_make_row' (P := Try.prog) 35 3 (.int .i64 0) 8 Try.underlying35 Try.info3 rfl .i64 .i64 n (by omega) (by omega)
  cases a with
  | none =>
    obtain rfl := rd_none H.out
    go_enter Try.func19, Try.ntmps19
    go_wp2
    go_ret
    exact ⟨⟨_, _, rfl, RdF.zero _ _ _ _⟩, Below.refl _ _⟩
  | some x =>
    go_enter Try.func19, Try.ntmps19
    go_wp2
    go_loopw [4] (fun i wr => ∃ k : Nat, k ≤ n ∧ i = .int .i64 k ∧ wr.rowIs w.heap.size 3 n (fun j => if j < k then iv .i64 z j else .int .i64 0) ∧ Below w.heap.size w wr) (fun i _ => n - (intOf i).toNat)
    case atStart => exact ⟨0, Nat.zero_le _, rfl, fill_start w _ n 3 _, (Below.refl _ _).alloc (Nat.le_refl _) _⟩
    case round =>
      obtain ⟨k, hk, rfl, hrow, hbel⟩ := hrel
      have HB := hide hbel
      by_cases hlt : k < n
      · obtain ⟨b, off, e, hb, hc⟩ := H.out k hlt
        obtain rfl := Option.some.inj e
        have hcell : wr.cell? ⟨b, off + k, none⟩ = some (.int .i64 (z k)) := by rw [hbel.cell hb]; exact hc
        have hfr : wr.frozen? ⟨w.heap.size, k, none⟩ = false := hrow.frozen k
        obtain ⟨v0, hce⟩ : ∃ v, wr.cell? ⟨w.heap.size, k, none⟩ = some v := ⟨_, hrow.cell hlt⟩
        have HR := hide hrow
        clear hrow hbel hc
        go_wp2
        go_roundw
        case rel => exact ⟨k + 1, by omega, by go_num, fill_step (w := w) HR.out, HB.out.setCell (Nat.le_refl _) _⟩
        case measure => simp [intOf]; omega
      · obtain rfl : k = n := by omega
        have HR := hide hrow
        clear hrow hbel
        go_wp2
        go_ret
        exact ⟨⟨_, _, rfl, RdF.of_row (fill_end HR.out) (Nat.le_refl _)⟩, HB.out⟩

/-! ### the blocks -/
/-- Rows in new memory behind block g, whose headers lie in block g. -/
def Rows (w : World) (g k : Nat) (ad : Nat → Option Addr) (L : Nat → Nat) (c : Nat → Nat → Int) : Prop := ∀ j, j < k → RdF (g + 1) w (ad j) (L j) (iv .i64 (c j))
def upd {α : Type} (f : Nat → α) (k : Nat) (x : α) : Nat → α := fun j => if j = k then x else f j
theorem upd_at {α : Type} (f : Nat → α) (k : Nat) (x : α) : upd f k x k = x := if_pos rfl
theorem upd_ne {α : Type} (f : Nat → α) {k j : Nat} (x : α) (h : j ≠ k) : upd f k x j = f j := if_neg h

theorem rows_step {w wr w2 : World} {g k n : Nat} {ad : Nat → Option Addr} {cp : Nat → Nat} {L : Nat → Nat} {c : Nat → Nat → Int} {a' : Option Addr} {c' : Nat}
    (hrow : wr.rowIs g 35 n (fun j => if j < k then .slice (ad j) (L j) (cp j) else .slice none 0 0)) (hr : Rows wr g k ad L c) (hb : Below wr.heap.size wr w2) (ha : RdF wr.heap.size w2 a' (L k) (iv .i64 (c k))) :
    (w2.setCell ⟨g, k, none⟩ (.slice a' (L k) c')).rowIs g 35 n (fun j => if j < k + 1 then .slice (upd ad k a' j) (L j) (upd cp k c' j) else .slice none 0 0) ∧ Rows (w2.setCell ⟨g, k, none⟩ (.slice a' (L k) c')) g (k + 1) (upd ad k a') L c := by
  have h1 : w2.rowIs g 35 n (fun j => if j < k then .slice (upd ad k a' j) (L j) (upd cp k c' j) else .slice none 0 0) := by
    refine (hrow.of_block (hb.block g hrow.lt)).congr fun j _ => ?_
    by_cases l : j < k
    · rw [if_pos l, if_pos l, upd_ne _ _ (by omega), upd_ne _ _ (by omega)]
    · rw [if_neg l, if_neg l]
  refine ⟨?_, fun j hj => ?_⟩
  · have := fill_step (w := w2) (f := fun j => .slice (upd ad k a' j) (L j) (upd cp k c' j)) h1
    simp only [upd_at] at this
    exact this
  · by_cases e : j = k
    · subst e
      rw [upd_at]
      exact (ha.mono (by have := hrow.lt; omega)).setCell (by simp) _
    · rw [upd_ne _ _ e]
      exact ((hr j (by omega)).below hb).setCell (by simp) _

set_option maxHeartbeats 1000000 in
theorem clone9 (a : Option Addr) (N cN : Nat) (L : Nat → Nat) (c : Nat → Nat → Int) (w : World) (hN : N ≤ 4096) (hL : Hid (∀ i, i < N → L i ≤ 4096)) (h : Bl w a N L c) :
    Calls Try.prog 9 #[.slice a N cN] w fun e w' => (∃ a' c', e = .returned (.slice a' N c') ∧ Bl w' a' N L c) ∧ Below w.heap.size w w' := by
  obtain ⟨ad, cp, h, hr⟩ := h
  have H := hide h
  have HR := hide hr
  clear h hr
  have hnil := fun w => Lib.run_eql_slice_nil (P := Try.prog) w 22 35 a N cN 0 0 Try.underlying22
  have hmk := run_make_row' (P := Try.prog) 22 35 (.slice none 0 0) 24 Try.underlying22 Try.info35 rfl .i64 .i64 N (by omega) (by omega)
  cases a with
  | none =>
    obtain rfl := rd_none H.out
    go_enter Try.func9, Try.ntmps9
    go_wp2
    go_ret
    exact ⟨⟨_, _, rfl, ⟨ad, cp, Rd.zero _ _ _, fun i hi => absurd hi (Nat.not_lt_zero i)⟩⟩, Below.refl _ _⟩
  | some x =>
    go_enter Try.func9, Try.ntmps9
    go_wp2
    go_loopw [4] (fun i wr => ∃ (k : Nat) (ad' : Nat → Option Addr) (cp' : Nat → Nat), k ≤ N ∧ i = .int .i64 k ∧ wr.rowIs w.heap.size 35 N (fun j => if j < k then .slice (ad' j) (L j) (cp' j) else .slice none 0 0) ∧ Rows wr w.heap.size k ad' L c ∧ Below w.heap.size w wr) (fun i _ => N - (intOf i).toNat)
    case atStart => exact ⟨0, fun _ => none, fun _ => 0, Nat.zero_le _, rfl, fill_start w _ N 35 _, fun j hj => absurd hj (Nat.not_lt_zero j), (Below.refl _ _).alloc (Nat.le_refl _) _⟩
    case round =>
      obtain ⟨k, ad', cp', hk, rfl, hrow, hrs, hbel⟩ := hrel
      have HB := hide hbel
      have HW := hide hrow
      have HS := hide hrs
      by_cases hlt : k < N
      · obtain ⟨b, off, e, hb, hc⟩ := H.out k hlt
        obtain rfl := Option.some.inj e
        have hcell : wr.cell? ⟨b, off + k, none⟩ = some (.slice (ad k) (L k) (cp k)) := by rw [hbel.cell hb]; exact hc
        have HC := hide (clone19f (ad k) (L k) (cp k) (c k) wr (by have := hL.out k hlt; omega) ((HR.out k hlt).below hbel))
        have hgl := hrow.lt
        clear hrow hrs hbel hc
        go_wp2_with fail
        refine HC.out.mono ?_
        rintro e w2 ⟨⟨a', c', rfl, hF⟩, hb2⟩
        have hcl : ∃ v, w2.cell? ⟨w.heap.size, k, none⟩ = some v := ⟨_, by rw [hb2.cell hgl]; exact HW.out.cell hlt⟩
        obtain ⟨v0, hce⟩ := hcl
        have hfr : w2.frozen? ⟨w.heap.size, k, none⟩ = false := by rw [hb2.frozen hgl]; exact HW.out.frozen k
        have R := hide (rows_step (w := w) (c' := c') HW.out HS.out hb2 hF)
        have HB2 := hide (HB.out.trans (hb2.mono HB.out.size))
        clear hF hb2 HW HS
        go_wp2_with fail
        go_roundw
        case rel => exact ⟨k + 1, _, _, by omega, by go_num, R.out.1, R.out.2, HB2.out.setCell (Nat.le_refl _) _⟩
        case measure => simp [intOf]; omega
      · obtain rfl : k = N := by omega
        clear hrow hrs hbel
        go_wp2_with fail
        go_ret
        exact ⟨⟨_, _, rfl, ⟨ad', cp', Rd.of_row (fill_end HW.out), fun i hi => (HS.out i hi).rd⟩⟩, HB.out⟩

/-! ### pairs and services: elements of two cells -/
/-- The two-cell elements laid out cell by cell. -/
def zip2 (f g : Nat → Value) : Nat → Value := fun j => if j % 2 = 0 then f (j / 2) else g (j / 2)
theorem zip2_even (f g : Nat → Value) (k : Nat) : zip2 f g (k * 2) = f k := by
  unfold zip2
  rw [if_pos (by omega), show k * 2 / 2 = k by omega]
theorem zip2_odd (f g : Nat → Value) (k : Nat) : zip2 f g (k * 2 + 1) = g k := by
  unfold zip2
  rw [if_neg (by omega), show (k * 2 + 1) / 2 = k by omega]

theorem fill2_step {w : World} {B n k : Nat} {t : TypeId} {f g z : Nat → Value} (h : w.rowIs B t n (fun j => if j < k * 2 then zip2 f g j else z j)) :
    ((w.setCell ⟨B, k * 2, none⟩ (f k)).setCell ⟨B, k * 2 + 1, none⟩ (g k)).rowIs B t n (fun j => if j < (k + 1) * 2 then zip2 f g j else z j) := by
  refine ((h.set (k * 2) (f k)).set (k * 2 + 1) (g k)).congr fun j hj => ?_
  by_cases e1 : j = k * 2 + 1
  · subst e1
    rw [if_pos rfl, if_pos (by omega), zip2_odd]
  · rw [if_neg e1]
    by_cases e2 : j = k * 2
    · subst e2
      rw [if_pos rfl, if_pos (by omega), zip2_even]
    · rw [if_neg e2]
      by_cases l : j < k * 2
      · rw [if_pos l, if_pos (by omega)]
      · rw [if_neg l, if_neg (by omega)]
theorem fill2_start (w : World) (cs : Array Value) (t : TypeId) (n : Nat) (hn : cs.size = n) (f g : Nat → Value) : ∃ z : Nat → Value, (w.alloc (.cells cs t)).rowIs w.heap.size t n (fun j => if j < 0 * 2 then zip2 f g j else z j) := by
  subst hn
  refine ⟨fun j => cs.getD j undef, (World.rowIs_alloc w cs t (fun j => cs.getD j undef) fun i hi => by simp [hi]).congr fun j hj => ?_⟩
  rw [if_neg (by omega)]
theorem fill2_end {w : World} {B n : Nat} {t : TypeId} {f g z : Nat → Value} (h : w.rowIs B t (n * 2) (fun j => if j < n * 2 then zip2 f g j else z j)) : Rd2 w (some ⟨B, 0, none⟩) n f g := by
  intro i hi
  refine ⟨B, 0, rfl, h.lt, ?_, ?_⟩
  · rw [Nat.zero_add, h.cell (by omega), if_pos (by omega), zip2_even]
  · rw [Nat.zero_add, h.cell (by omega), if_pos (by omega), zip2_odd]

theorem run_make_two (t e : TypeId) (z : Value) (bytes : Nat) (ht : Try.prog.underlying t = some (.slice e)) (hinfo : (Try.prog.info? e).map (fun i => (i.zero, i.size, i.bytes)) = some (some z, 2, bytes))
    (n : Nat) (hbytes : bytes * n ≤ 281474976710656) (h63 : n ≤ 9223372036854775807) (w : World) :
    (Instr.makeSlice t (.int .i64 (n : Int)) (.int .i64 (n : Int))).run Try.prog w = .ok (.slice (some ⟨w.heap.size, 0, none⟩) n n) (w.alloc (.cells (madeCells z.cells (n * 2)) e)) := by
  obtain ⟨i, hi, hz, hs, hb⟩ := info_parts hinfo
  have hb' : (i.bytes : Int) * (n : Int) ≤ 281474976710656 := by
    have h : ((i.bytes * n : Nat) : Int) ≤ 281474976710656 := by rw [hb]; omega
    rwa [Int.natCast_mul] at h
  have hr := run_make (P := Try.prog) w t e i z ht hi hz .i64 .i64 n n (by omega) (Int.le_refl _) hb' (by omega)
  simp only [Int.toNat_natCast, hs] at hr
  exact hr

set_option maxHeartbeats 1000000 in
theorem clone10 (a : Option Addr) (n c : Nat) (f g : Nat → Int) (w : World) (hn : n ≤ 4096) (h : Rd2 w a n (iv .i64 f) (iv .i64 g)) :
    Calls Try.prog 10 #[.slice a n c] w fun e w' => (∃ a' c', e = .returned (.slice a' n c') ∧ Rd2 w' a' n (iv .i64 f) (iv .i64 g)) ∧ Below w.heap.size w w' := by
  have H := hide h
  clear h
  have hnil := fun w => Lib.run_eql_slice_nil (P := Try.prog) w 23 47 a n c 0 0 Try.underlying23
  have hmk := run_make_two 23 47 _ 16 Try.underlying23 Try.info47 n (by omega) (by omega)
  generalize hcs : madeCells (Value.agg #[.int .i64 0, .int .i64 0]).cells (n * 2) = cs at hmk
  have hsz : cs.size = n * 2 := by rw [← hcs, size_madeCells]
  have HSZ := hide hsz
  clear hsz hcs
  cases a with
  | none =>
    obtain rfl := rd2_none H.out
    go_enter Try.func10, Try.ntmps10
    go_wp2
    go_ret
    exact ⟨⟨_, _, rfl, fun i hi => absurd hi (Nat.not_lt_zero i)⟩, Below.refl _ _⟩
  | some x =>
    go_enter Try.func10, Try.ntmps10
    go_wp2
    go_loopw [4] (fun i wr => ∃ (k : Nat) (z : Nat → Value), k ≤ n ∧ i = .int .i64 k ∧ wr.rowIs w.heap.size 47 (n * 2) (fun j => if j < k * 2 then zip2 (iv .i64 f) (iv .i64 g) j else z j) ∧ Below w.heap.size w wr) (fun i _ => n - (intOf i).toNat)
    case atStart =>
      obtain ⟨z, hz⟩ := fill2_start w cs 47 (n * 2) HSZ.out (iv .i64 f) (iv .i64 g)
      exact ⟨0, z, Nat.zero_le _, rfl, hz, (Below.refl _ _).alloc (Nat.le_refl _) _⟩
    case round =>
      obtain ⟨k, z, hk, rfl, hrow, hbel⟩ := hrel
      have HB := hide hbel
      have HR := hide hrow
      by_cases hlt : k < n
      · obtain ⟨b, off, e, hb, hc, hc'⟩ := H.out k hlt
        obtain rfl := Option.some.inj e
        have h1 : wr.cell? ⟨b, off + k * 2, none⟩ = some (.int .i64 (f k)) := by rw [hbel.cell hb]; exact hc
        have h2 : wr.cell? ⟨b, off + k * 2 + 1, none⟩ = some (.int .i64 (g k)) := by rw [hbel.cell hb]; exact hc'
        have f1 : wr.frozen? ⟨w.heap.size, k * 2, none⟩ = false := hrow.frozen _
        have f2 : wr.frozen? ⟨w.heap.size, k * 2 + 1, none⟩ = false := hrow.frozen _
        obtain ⟨v0, e1⟩ : ∃ v, wr.cell? ⟨w.heap.size, k * 2, none⟩ = some v := ⟨_, hrow.cell (by omega)⟩
        obtain ⟨v1, e2⟩ : ∃ v, wr.cell? ⟨w.heap.size, k * 2 + 1, none⟩ = some v := ⟨_, hrow.cell (by omega)⟩
        have R : Hid (((wr.setCell ⟨w.heap.size, k * 2, none⟩ (.int .i64 (f k))).setCell ⟨w.heap.size, k * 2 + 1, none⟩ (.int .i64 (g k))).rowIs w.heap.size 47 (n * 2) (fun j => if j < (k + 1) * 2 then zip2 (iv .i64 f) (iv .i64 g) j else z j)) :=
          fill2_step (k := k) (f := iv .i64 f) (g := iv .i64 g) (z := z) hrow
        clear hrow hbel hc hc'
        go_wp2
        go_roundw
        case rel => exact ⟨k + 1, z, by omega, by go_num, R.out, (HB.out.setCell (Nat.le_refl _) _).setCell (Nat.le_refl _) _⟩
        case measure => simp [intOf]; omega
      · obtain rfl : k = n := by omega
        clear hrow hbel
        go_wp2
        go_ret
        exact ⟨⟨_, _, rfl, fill2_end HR.out⟩, HB.out⟩

/-- The services: what each offers, whether it lapses. -/
def bv (l : Nat → Bool) : Nat → Value := fun i => .bool (l i)

set_option maxHeartbeats 1000000 in
theorem clone11 (a : Option Addr) (n c : Nat) (f : Nat → Int) (g : Nat → Bool) (w : World) (hn : n ≤ 65536) (h : Rd2 w a n (iv .u8 f) (bv g)) :
    Calls Try.prog 11 #[.slice a n c] w fun e w' => (∃ a' c', e = .returned (.slice a' n c') ∧ Rd2 w' a' n (iv .u8 f) (bv g)) ∧ Below w.heap.size w w' := by
  have H := hide h
  clear h
  have hnil := fun w => Lib.run_eql_slice_nil (P := Try.prog) w 24 49 a n c 0 0 Try.underlying24
  have hmk := run_make_two 24 49 _ 2 Try.underlying24 Try.info49 n (by omega) (by omega)
  generalize hcs : madeCells (Value.agg #[.int .u8 0, .bool false]).cells (n * 2) = cs at hmk
  have hsz : cs.size = n * 2 := by rw [← hcs, size_madeCells]
  have HSZ := hide hsz
  clear hsz hcs
  cases a with
  | none =>
    obtain rfl := rd2_none H.out
    go_enter Try.func11, Try.ntmps11
    go_wp2
    go_ret
    exact ⟨⟨_, _, rfl, fun i hi => absurd hi (Nat.not_lt_zero i)⟩, Below.refl _ _⟩
  | some x =>
    go_enter Try.func11, Try.ntmps11
    go_wp2
    go_loopw [4] (fun i wr => ∃ (k : Nat) (z : Nat → Value), k ≤ n ∧ i = .int .i64 k ∧ wr.rowIs w.heap.size 49 (n * 2) (fun j => if j < k * 2 then zip2 (iv .u8 f) (bv g) j else z j) ∧ Below w.heap.size w wr) (fun i _ => n - (intOf i).toNat)
    case atStart =>
      obtain ⟨z, hz⟩ := fill2_start w cs 49 (n * 2) HSZ.out (iv .u8 f) (bv g)
      exact ⟨0, z, Nat.zero_le _, rfl, hz, (Below.refl _ _).alloc (Nat.le_refl _) _⟩
    case round =>
      obtain ⟨k, z, hk, rfl, hrow, hbel⟩ := hrel
      have HB := hide hbel
      have HR := hide hrow
      by_cases hlt : k < n
      · obtain ⟨b, off, e, hb, hc, hc'⟩ := H.out k hlt
        obtain rfl := Option.some.inj e
        have h1 : wr.cell? ⟨b, off + k * 2, none⟩ = some (.int .u8 (f k)) := by rw [hbel.cell hb]; exact hc
        have h2 : wr.cell? ⟨b, off + k * 2 + 1, none⟩ = some (.bool (g k)) := by rw [hbel.cell hb]; exact hc'
        have f1 : wr.frozen? ⟨w.heap.size, k * 2, none⟩ = false := hrow.frozen _
        have f2 : wr.frozen? ⟨w.heap.size, k * 2 + 1, none⟩ = false := hrow.frozen _
        obtain ⟨v0, e1⟩ : ∃ v, wr.cell? ⟨w.heap.size, k * 2, none⟩ = some v := ⟨_, hrow.cell (by omega)⟩
        obtain ⟨v1, e2⟩ : ∃ v, wr.cell? ⟨w.heap.size, k * 2 + 1, none⟩ = some v := ⟨_, hrow.cell (by omega)⟩
        have R : Hid (((wr.setCell ⟨w.heap.size, k * 2, none⟩ (.int .u8 (f k))).setCell ⟨w.heap.size, k * 2 + 1, none⟩ (.bool (g k))).rowIs w.heap.size 49 (n * 2) (fun j => if j < (k + 1) * 2 then zip2 (iv .u8 f) (bv g) j else z j)) :=
          fill2_step (k := k) (f := iv .u8 f) (g := bv g) (z := z) hrow
        clear hrow hbel hc hc'
        go_wp2
        go_roundw
        case rel => exact ⟨k + 1, z, by omega, by go_num, R.out, (HB.out.setCell (Nat.le_refl _) _).setCell (Nat.le_refl _) _⟩
        case measure => simp [intOf]; omega
      · obtain rfl : k = n := by omega
        clear hrow hbel
        go_wp2
        go_ret
        exact ⟨⟨_, _, rfl, fill2_end HR.out⟩, HB.out⟩
end Go.Proofs.Qxb6604014a
