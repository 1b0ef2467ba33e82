/-
  THE WALKS OF THE CALLEES of FnEncodeIsInjective: digit (11), (ID).Encode (7), digitsOfLen (10), validPLMN (6), zzBytes (9). Seat b6603977a.
-/
import Derived.Test.Qxb6603977aRows
import Derived.WalkKit
import Derived.ProofKit
import Derived.ShutString
import Derived.Test.Qxb6603977aQuietTail
namespace Go.Proofs.Qxb6603977a.fnEncodeIsInjective
open Go.ChangeShapes Go.WideShapes Go.ChangeAt Go.RowKit Go.BigFrame
set_option linter.unusedVariables false

theorem grown_drewN {a b : World} (h : Grown a b) (n : Nat) : Grown a (b.drewN n) := h
theorem below_drewN {B : Nat} {a b : World} (h : Below B a b) (n : Nat) : Below B a (b.drewN n) := ⟨h.os, h.tape, h.output, h.size, h.block⟩

theorem digit_any (c : Int) (h0 : 48 ≤ c) (h1 : c ≤ 57) (w : World) : Calls Try.prog 11 #[.int .u8 c] w fun e w' => e = .returned (.int .u8 (c - 48)) ∧ w' = w := by
  go_enter Try.func11, Try.ntmps11
  go_wp2
  go_ret
  exact ⟨rfl, rfl⟩

/-- Two nibbles joined. -/
theorem or_nib_fin : ∀ x : Fin 16, ∀ y : Fin 16, bits .or .u8 ((x.val : Int) * 16) (y.val : Int) = (x.val : Int) * 16 + (y.val : Int) := by decide
theorem or_nib (x y : Int) (x0 : 0 ≤ x) (x1 : x ≤ 15) (y0 : 0 ≤ y) (y1 : y ≤ 15) : bits .or .u8 (x * 16) y = x * 16 + y := by
  obtain ⟨x, rfl⟩ := Int.eq_ofNat_of_zero_le x0
  obtain ⟨y, rfl⟩ := Int.eq_ofNat_of_zero_le y0
  exact or_nib_fin ⟨x, by omega⟩ ⟨y, by omega⟩

/-- What Encode hands back. -/
def EncSays (p q : ByteArray) (o0 o1 o2 : Int) : Prop := ∀ w, Calls Try.prog 7 #[.agg #[.string p, .string q]] w fun e w' =>
  e = .returned (.agg #[.int .u8 o0, .int .u8 o1, .int .u8 o2]) ∧ Grown w w' ∧ Below w.heap.size w w'

set_option maxHeartbeats 1000000 in
theorem enc2 (p q : ByteArray) (hp : p.size = 3) (hq : q.size = 2) (a0 a1 a2 b0 b1 : Int) (ea0 : ((p[0]'(by omega)).toNat : Int) = a0) (ea1 : ((p[1]'(by omega)).toNat : Int) = a1) (ea2 : ((p[2]'(by omega)).toNat : Int) = a2)
    (eb0 : ((q[0]'(by omega)).toNat : Int) = b0) (eb1 : ((q[1]'(by omega)).toNat : Int) = b1)
    (a0l : 48 ≤ a0) (a0h : a0 ≤ 57) (a1l : 48 ≤ a1) (a1h : a1 ≤ 57) (a2l : 48 ≤ a2) (a2h : a2 ≤ 57) (b0l : 48 ≤ b0) (b0h : b0 ≤ 57) (b1l : 48 ≤ b1) (b1h : b1 ≤ 57) :
    EncSays p q ((a1 - 48) * 16 + (a0 - 48)) (15 * 16 + (a2 - 48)) ((b1 - 48) * 16 + (b0 - 48)) := by
  have q1 := or_nib (a1 - 48) (a0 - 48) (by omega) (by omega) (by omega) (by omega)
  have q2 := or_nib 15 (a2 - 48) (by omega) (by omega) (by omega) (by omega)
  have q3 := or_nib (b1 - 48) (b0 - 48) (by omega) (by omega) (by omega) (by omega)
  rw [← q1, ← q2, ← q3]
  clear q1 q2 q3
  intro w
  go_enter Try.func7, Try.ntmps7
  go_wp2_with fail
  refine wp_region_quiet_tail_lit 28 (by kernel_rfl) (by kernel_rfl) ?_
  simp only [List.take_succ_cons, List.take_zero, List.drop_succ_cons, List.drop_zero]
  repeat (go_big_quiet_step ((go_at_call 11; exact Calls.quiet_of_same (digit_any _ (by omega) (by omega) _))))
  refine wpQuiet_nil ?_
  intro _ hw'
  obtain ⟨nq, hw''⟩ := hw'
  subst hw''
  go_wp2
  refine bodyPost_ret (v := .agg #[.int .u8 (bits .or .u8 ((a1 - 48) * 16) (a0 - 48)), .int .u8 (bits .or .u8 240 (a2 - 48)), .int .u8 (bits .or .u8 ((b1 - 48) * 16) (b0 - 48))]) (by simp [results, Try.results7, go_sem]) rfl ⟨rfl, ?_, ?_⟩
  · exact (((grown_drewN (((Grown.refl w).alloc _ _).alloc _ _) nq).setCell (by simp) _).setCell (by simp) _).setCell (by simp) _
  · exact (((below_drewN (((Below.refl _ w).alloc (Nat.le_refl _) _).alloc (by simp) _) nq).setCell (by simp) _).setCell (by simp) _).setCell (by simp) _

set_option maxHeartbeats 1000000 in
theorem enc3 (p q : ByteArray) (hp : p.size = 3) (hq : q.size = 3) (a0 a1 a2 b0 b1 b2 : Int) (ea0 : ((p[0]'(by omega)).toNat : Int) = a0) (ea1 : ((p[1]'(by omega)).toNat : Int) = a1) (ea2 : ((p[2]'(by omega)).toNat : Int) = a2)
    (eb0 : ((q[0]'(by omega)).toNat : Int) = b0) (eb1 : ((q[1]'(by omega)).toNat : Int) = b1) (eb2 : ((q[2]'(by omega)).toNat : Int) = b2)
    (a0l : 48 ≤ a0) (a0h : a0 ≤ 57) (a1l : 48 ≤ a1) (a1h : a1 ≤ 57) (a2l : 48 ≤ a2) (a2h : a2 ≤ 57) (b0l : 48 ≤ b0) (b0h : b0 ≤ 57) (b1l : 48 ≤ b1) (b1h : b1 ≤ 57) (b2l : 48 ≤ b2) (b2h : b2 ≤ 57) :
    EncSays p q ((a1 - 48) * 16 + (a0 - 48)) ((b2 - 48) * 16 + (a2 - 48)) ((b1 - 48) * 16 + (b0 - 48)) := by
  have q1 := or_nib (a1 - 48) (a0 - 48) (by omega) (by omega) (by omega) (by omega)
  have q2 := or_nib (b2 - 48) (a2 - 48) (by omega) (by omega) (by omega) (by omega)
  have q3 := or_nib (b1 - 48) (b0 - 48) (by omega) (by omega) (by omega) (by omega)
  rw [← q1, ← q2, ← q3]
  clear q1 q2 q3
  intro w
  go_enter Try.func7, Try.ntmps7
  go_wp2_with (go_at_call 11; refine (digit_any _ b2l b2h _).mono ?_; rintro e w' ⟨rfl, rfl⟩)
  refine wp_region_quiet_tail_lit 28 (by kernel_rfl) (by kernel_rfl) ?_
  simp only [List.take_succ_cons, List.take_zero, List.drop_succ_cons, List.drop_zero]
  repeat (go_big_quiet_step ((go_at_call 11; exact Calls.quiet_of_same (digit_any _ (by omega) (by omega) _))))
  refine wpQuiet_nil ?_
  intro _ hw'
  obtain ⟨nq, hw''⟩ := hw'
  subst hw''
  go_wp2
  refine bodyPost_ret (v := .agg #[.int .u8 (bits .or .u8 ((a1 - 48) * 16) (a0 - 48)), .int .u8 (bits .or .u8 ((b2 - 48) * 16) (a2 - 48)), .int .u8 (bits .or .u8 ((b1 - 48) * 16) (b0 - 48))]) (by simp [results, Try.results7, go_sem]) rfl ⟨rfl, ?_, ?_⟩
  · exact (((grown_drewN (((Grown.refl w).alloc _ _).alloc _ _) nq).setCell (by simp) _).setCell (by simp) _).setCell (by simp) _
  · exact (((below_drewN (((Below.refl _ w).alloc (Nat.le_refl _) _).alloc (by simp) _) nq).setCell (by simp) _).setCell (by simp) _).setCell (by simp) _

/-! ### digitsOfLen, validPLMN -/
/-- All bytes of s are decimal digits, and it has lo to hi of them. -/
def Digs (s : ByteArray) (lo hi : Nat) : Prop := lo ≤ s.size ∧ s.size ≤ hi ∧ ∀ (i : Nat) (h : i < s.size), 48 ≤ (s[i].toNat : Int) ∧ (s[i].toNat : Int) ≤ 57

set_option maxHeartbeats 400000 in
theorem dig_len (s : ByteArray) (lo hi : Nat) (hs : s.size ≤ maxLen) (hh : hi ≤ 3) (h : ¬ (lo ≤ s.size ∧ s.size ≤ hi)) (w : World) :
    Calls Try.prog 10 #[.string s, .int .i64 lo, .int .i64 hi] w fun e w' => e = .returned (.bool false) ∧ w = w' := by
  unfold maxLen at hs
  by_cases h1 : s.size < lo
  · clear h
    go_enter Try.func10, Try.ntmps10
    go_wp2
    go_ret
    exact ⟨rfl, rfl⟩
  · have h2 : hi < s.size := by omega
    have h1' : lo ≤ s.size := by omega
    clear h h1
    go_enter Try.func10, Try.ntmps10
    go_wp2
    go_ret
    exact ⟨rfl, rfl⟩

set_option maxHeartbeats 400000 in
theorem dig_run (s : ByteArray) (lo hi : Nat) (hh : hi ≤ 3) (h1 : lo ≤ s.size) (h2 : s.size ≤ hi) (w : World) :
    Calls Try.prog 10 #[.string s, .int .i64 lo, .int .i64 hi] w fun e w' => (e = .returned (.bool true) ∧ Digs s lo hi ∨ e = .returned (.bool false) ∧ ¬ Digs s lo hi) ∧ w = w' := by
  have d1 : decide ((s.size : Int) < lo) = false := by simp; omega
  have d2 : decide ((hi : Int) < s.size) = false := by simp; omega
  have hsz : (s.size : Int) ≤ 3 := by omega
  go_enter Try.func10, Try.ntmps10
  go_wp2
  go_loop [7] (fun i => ∃ k : Nat, k ≤ s.size ∧ i = .int .i64 k ∧ Hid (∀ (j : Nat) (h : j < s.size), j < k → 48 ≤ (s[j].toNat : Int) ∧ (s[j].toNat : Int) ≤ 57)) (fun i => s.size - (intOf i).toNat)
  case atStart => exact ⟨0, Nat.zero_le _, rfl, fun j _ hj => by omega⟩
  case round =>
    obtain ⟨k, hk, rfl, HK⟩ := hrel
    by_cases hlt : k < s.size
    · obtain ⟨c, hc⟩ : ∃ c : Int, (s[k].toNat : Int) = c := ⟨_, rfl⟩
      have c0 : 0 ≤ c := by omega
      by_cases hd : 48 ≤ c ∧ c ≤ 57
      · have HK' : Hid (∀ (j : Nat) (h : j < s.size), j < k + 1 → 48 ≤ (s[j].toNat : Int) ∧ (s[j].toNat : Int) ≤ 57) := by
          intro j hj hjk
          by_cases e : j = k
          · subst e; rw [hc]; exact hd
          · exact HK.out j hj (by omega)
        clear HK
        obtain ⟨hd1, hd2⟩ := hd
        go_wp2
        go_round
        case rel => exact ⟨k + 1, by omega, by go_num, HK'⟩
        case measure => simp [intOf]; omega
      · have HN : Hid (¬ Digs s lo hi) := by
          intro hD
          exact hd (hc ▸ hD.2.2 k hlt)
        clear HK
        by_cases h3 : c < 48
        · clear hd
          go_wp2
          go_ret
          exact ⟨Or.inr ⟨rfl, HN.out⟩, rfl⟩
        · have h4 : 57 < c := by omega
          have h5 : 48 ≤ c := by omega
          clear hd h3
          go_wp2
          go_ret
          exact ⟨Or.inr ⟨rfl, HN.out⟩, rfl⟩
    · have hD : Hid (Digs s lo hi) := ⟨h1, h2, fun i hi => HK.out i hi (by omega)⟩
      clear HK
      go_wp2
      go_ret
      exact ⟨Or.inl ⟨rfl, hD.out⟩, rfl⟩

/-- digitsOfLen says just whether s is lo to hi digits. -/
theorem dig_says (s : ByteArray) (lo hi : Nat) (hs : s.size ≤ maxLen) (hh : hi ≤ 3) (w : World) :
    Calls Try.prog 10 #[.string s, .int .i64 lo, .int .i64 hi] w fun e w' => (e = .returned (.bool true) ∧ Digs s lo hi ∨ e = .returned (.bool false) ∧ ¬ Digs s lo hi) ∧ w = w' := by
  by_cases h : lo ≤ s.size ∧ s.size ≤ hi
  · exact dig_run s lo hi hh h.1 h.2 w
  · exact (dig_len s lo hi hs hh h w).mono fun e w' ⟨he, hw⟩ => ⟨Or.inr ⟨he, fun hD => h ⟨hD.1, hD.2.1⟩⟩, hw⟩

theorem calls_det {f : FuncId} {args : Array Value} {w : World} {b : Bool} {D : Prop} (hD : b = true ↔ D)
    (h : Calls Try.prog f args w fun e w' => (e = .returned (.bool true) ∧ D ∨ e = .returned (.bool false) ∧ ¬ D) ∧ w = w') : Calls Try.prog f args w fun e w' => e = .returned (.bool b) ∧ w = w' :=
  h.mono fun e w' ⟨he, hw⟩ => by
    refine ⟨?_, hw⟩
    rcases he with ⟨he, hd⟩ | ⟨he, hd⟩
    · rw [he, hD.2 hd]
    · cases b
      · exact he
      · exact absurd (hD.1 rfl) hd

def ValSays (p q : ByteArray) (b : Bool) : Prop := ∀ w, Calls Try.prog 6 #[.string p, .string q] w fun e w' => e = .returned (.bool b) ∧ w = w'
theorem val_no1 (p q : ByteArray) (hp : p.size ≤ maxLen) (h : ¬ Digs p 3 3) : ValSays p q false := by
  intro w
  have c1 : ∀ w, Calls Try.prog 10 #[.string p, .int .i64 3, .int .i64 3] w fun e w' => e = .returned (.bool false) ∧ w = w' := fun w => calls_det (by simpa using h) (dig_says p 3 3 hp (by omega) w)
  have H1 : Hid _ := c1
  clear c1
  go_enter Try.func6, Try.ntmps6
  go_wp2_with fail
  refine (H1.out _).mono ?_
  rintro e w' ⟨rfl, rfl⟩
  go_wp2_with fail
  go_ret
  exact ⟨rfl, rfl⟩
theorem val_2 (p q : ByteArray) (hp : p.size ≤ maxLen) (hq : q.size ≤ maxLen) (h : Digs p 3 3) (b : Bool) (hb : b = true ↔ Digs q 2 3) : ValSays p q b := by
  intro w
  have c1 : ∀ w, Calls Try.prog 10 #[.string p, .int .i64 3, .int .i64 3] w fun e w' => e = .returned (.bool true) ∧ w = w' := fun w => calls_det (by simpa using h) (dig_says p 3 3 hp (by omega) w)
  have H1 : Hid _ := c1
  clear c1
  have c2 : ∀ w, Calls Try.prog 10 #[.string q, .int .i64 2, .int .i64 3] w fun e w' => e = .returned (.bool b) ∧ w = w' := fun w => calls_det hb (dig_says q 2 3 hq (by omega) w)
  have H2 : Hid _ := c2
  clear c2 hb h
  go_enter Try.func6, Try.ntmps6
  go_wp2_with fail
  refine (H1.out _).mono ?_
  rintro e w' ⟨rfl, rfl⟩
  go_wp2_with fail
  refine (H2.out _).mono ?_
  rintro e w' ⟨rfl, rfl⟩
  go_wp2_with fail
  go_ret
  exact ⟨rfl, rfl⟩

/-! ### zzBytes: whatever it answers -/
set_option maxHeartbeats 1000000 in
theorem zz_any (a b c d : ByteArray) (ha : a.size ≤ maxLen) (hb : b.size ≤ maxLen) (hc : c.size ≤ maxLen) (hd : d.size ≤ maxLen) (w : World) :
    Calls Try.prog 9 #[.string a, .string b, .string c, .string d] w fun e w' => (∃ x, e = .returned (.bool x)) ∧ w = w' := by
  unfold maxLen at ha hb hc hd
  go_enter Try.func9, Try.ntmps9
  go_wp2
  all_goals (go_ret; exact ⟨⟨_, rfl⟩, rfl⟩)
end Go.Proofs.Qxb6603977a.fnEncodeIsInjective
