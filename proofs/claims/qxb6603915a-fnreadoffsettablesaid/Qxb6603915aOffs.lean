/-
  THE WALKS OF THE CALLEES of FnReadOffsetTable: renderOffsetB1 (11), zzBytes (9), decimal (12), readOffset (13) behind ZZreadOffset (10). Seat b6603915a.
-/
import Derived.Test.Qxb6603915aRows
import Derived.WalkKit
import Derived.ProofKit
import Derived.ShutString
import Derived.Laws.BytesArg
namespace Go.Proofs.Qxb6603915a.fnReadOffsetTable
open Go.ChangeShapes Go.WideShapes Go.ChangeAt Go.RowKit
set_option linter.unusedVariables false

theorem hide {p : Prop} (h : p) : Hid p := h

theorem conv6 (w : World) (x0 x1 x2 x3 x4 x5 : Int) :
    (convert 29 9 (.slice (some ⟨w.heap.size, 0, none⟩) 6 6)).run Try.prog (w.alloc (.cells #[.int .u8 x0, .int .u8 x1, .int .u8 x2, .int .u8 x3, .int .u8 x4, .int .u8 x5] 28)) =
      .ok (.string (strOfNums [x0, x1, x2, x3, x4, x5])) (w.alloc (.cells #[.int .u8 x0, .int .u8 x1, .int .u8 x2, .int .u8 x3, .int .u8 x4, .int .u8 x5] 28)) := by
  refine run_convert_bytes_arg (P := Try.prog) _ 29 5 Try.underlying29 Try.underlying5 w.heap.size 0 6 6 [x0, x1, x2, x3, x4, x5] rfl ?_ 9 Try.underlying9
  intro i hi
  match i, hi with
  | 0, _ => simp [go_sem]
  | 1, _ => simp [go_sem]
  | 2, _ => simp [go_sem]
  | 3, _ => simp [go_sem]
  | 4, _ => simp [go_sem]
  | 5, _ => simp [go_sem]

/-- The six bytes that renderOffsetB1 writes, as numbers. -/
def rend (b : Bool) (h m : Int) : List Int := [if b then 45 else 43, 48 + h / 10, 48 + h % 10, 58, 48 + m / 10, 48 + m % 10]

set_option maxHeartbeats 400000 in
theorem render_any (b : Bool) (h m : Int) (h0 : 0 ≤ h) (hh : h < 100) (m0 : 0 ≤ m) (hm : m < 100) (w : World) :
    Calls Try.prog 11 #[.bool b, .int .i64 h, .int .i64 m] w fun e w' => e = .returned (.string (strOfNums (rend b h m))) ∧ Grown w w' := by
  have hk := conv6 w
  cases b
  · go_enter Try.func11, Try.ntmps11
    go_wp2
    go_ret
    exact ⟨rfl, (Grown.refl _).alloc _ _⟩
  · go_enter Try.func11, Try.ntmps11
    go_wp2
    go_ret
    exact ⟨rfl, (Grown.refl _).alloc _ _⟩

theorem zz_any (s : ByteArray) (hs : s.size ≤ 1048576) (w : World) :
    Calls Try.prog 9 #[.string s] w fun e w' => e = .returned (.bool true) ∧ w = w' := by
  go_enter Try.func9, Try.ntmps9
  go_wp2
  go_ret
  exact ⟨rfl, rfl⟩
theorem zz_no (s : ByteArray) (hs : 1048576 < s.size) (w : World) :
    Calls Try.prog 9 #[.string s] w fun e w' => e = .returned (.bool false) ∧ w = w' := by
  go_enter Try.func9, Try.ntmps9
  go_wp2
  go_ret
  exact ⟨rfl, rfl⟩

/-! ### decimal at two bytes -/
set_option maxHeartbeats 400000 in
theorem dec_yes (s : ByteArray) (hs : s.size = 2) (x y : Int) (w : World) (hx : ((s[0]'(by omega)).toNat : Int) = x) (hy : ((s[1]'(by omega)).toNat : Int) = y) (hx1 : 48 ≤ x) (hx2 : x ≤ 57) (hy1 : 48 ≤ y) (hy2 : y ≤ 57) :
    Calls Try.prog 12 #[.string s] w fun e w' => e = .returned (.tuple #[.int .i64 ((x - 48) * 10 + (y - 48)), .bool true]) ∧ w = w' := by
  have hne : s.toList.isEmpty = false := by
    rw [ByteArray.toList_eq, List.isEmpty_eq_false_iff_exists_mem]
    exact ⟨s[0]'(by omega), by rw [ByteArray.getElem_eq_getElem_data]; simp⟩
  go_enter Try.func12, Try.ntmps12
  go_wp2
  go_loop [4, 8] (fun n i => (i = .int .i64 0 ∧ n = .int .i64 0) ∨ (i = .int .i64 1 ∧ n = .int .i64 (x - 48)) ∨ (i = .int .i64 2 ∧ n = .int .i64 ((x - 48) * 10 + (y - 48)))) (fun _ i => 2 - (intOf i).toNat)
  case atStart => exact Or.inl ⟨rfl, rfl⟩
  case round =>
    rcases hrel with ⟨rfl, rfl⟩ | ⟨rfl, rfl⟩ | ⟨rfl, rfl⟩
    · go_wp2
      go_round
      case rel => exact Or.inr (Or.inl ⟨rfl, rfl⟩)
      case measure => simp [intOf]
    · go_wp2
      go_round
      case rel => exact Or.inr (Or.inr ⟨rfl, rfl⟩)
      case measure => simp [intOf]
    · go_wp2
      go_ret2
      exact ⟨rfl, rfl⟩
set_option maxHeartbeats 400000 in
theorem dec_no (s : ByteArray) (hs : s.size = 2) (x y : Int) (w : World) (hx : ((s[0]'(by omega)).toNat : Int) = x) (hy : ((s[1]'(by omega)).toNat : Int) = y) (hn : ¬ (48 ≤ x ∧ x ≤ 57 ∧ 48 ≤ y ∧ y ≤ 57)) :
    Calls Try.prog 12 #[.string s] w fun e w' => e = .returned (.tuple #[.int .i64 0, .bool false]) ∧ w = w' := by
  have hx0 : 0 ≤ x := by omega
  have hy0 : 0 ≤ y := by omega
  go_enter Try.func12, Try.ntmps12
  go_wp2
  go_loop [4, 8] (fun n i => (i = .int .i64 0 ∧ n = .int .i64 0) ∨ (i = .int .i64 1 ∧ n = .int .i64 (x - 48) ∧ 48 ≤ x ∧ x ≤ 57)) (fun _ i => 2 - (intOf i).toNat)
  case atStart => exact Or.inl ⟨rfl, rfl⟩
  case round =>
    rcases hrel with ⟨rfl, rfl⟩ | ⟨rfl, rfl, h1, h2⟩
    · by_cases h1 : 48 ≤ x ∧ x ≤ 57
      · obtain ⟨h1, h2⟩ := h1
        go_wp2
        go_round
        case rel => exact Or.inr ⟨rfl, rfl, h1, h2⟩
        case measure => simp [intOf]
      · by_cases h2 : x < 48
        · go_wp2
          go_ret2
          exact ⟨rfl, rfl⟩
        · have h3 : 57 < x := by omega
          have h4 : 48 ≤ x := by omega
          clear hn h1
          go_wp2
          go_ret2
          exact ⟨rfl, rfl⟩
    · by_cases h3 : y < 48
      · clear hn
        go_wp2
        go_ret2
        exact ⟨rfl, rfl⟩
      · have h3 : 57 < y := by omega
        have h4 : 48 ≤ y := by omega
        clear hn
        go_wp2
        go_ret2
        exact ⟨rfl, rfl⟩

/-! ### readOffset (13): what it answers, way by way -/
theorem ro_size (s : ByteArray) (hs : s.size ≤ 1048576) (h6 : ((s.size : Int) != 6) = true) (w : World) :
    Calls Try.prog 13 #[.string s] w fun e w' => e = .returned (.tuple #[.int .i64 0, .bool false]) ∧ w = w' := by
  go_enter Try.func13, Try.ntmps13
  go_wp2
  go_ret2
  exact ⟨rfl, rfl⟩

theorem ro_c0 (s : ByteArray) (h6 : s.size = 6) (c0 : Int) (w : World) (h0 : ((s[0]'(by omega)).toNat : Int) = c0) (hp : (c0 != 43) = true) (hm : (c0 != 45) = true) :
    Calls Try.prog 13 #[.string s] w fun e w' => e = .returned (.tuple #[.int .i64 0, .bool false]) ∧ w = w' := by
  go_enter Try.func13, Try.ntmps13
  go_wp2
  go_ret2
  exact ⟨rfl, rfl⟩
set_option maxHeartbeats 400000 in
theorem ro_c3 (s : ByteArray) (h6 : s.size = 6) (c0 c3 : Int) (w : World) (h0 : ((s[0]'(by omega)).toNat : Int) = c0) (h3 : ((s[3]'(by omega)).toNat : Int) = c3) (hp : c0 = 43 ∨ c0 = 45) (hm : (c3 != 58) = true) :
    Calls Try.prog 13 #[.string s] w fun e w' => e = .returned (.tuple #[.int .i64 0, .bool false]) ∧ w = w' := by
  rcases hp with rfl | rfl
  all_goals
    go_enter Try.func13, Try.ntmps13
    go_wp2
    go_ret2
    exact ⟨rfl, rfl⟩

/-- What the two calls of decimal come to, ahead of readOffset's own walk. -/
def DecSays (s : ByteArray) (n : Int) (ok : Bool) : Prop := ∀ w, Calls Try.prog 12 #[.string s] w fun e w' => e = .returned (.tuple #[.int .i64 n, .bool ok]) ∧ w = w'

theorem dec_says (s : ByteArray) (hs : s.size = 2) (x y : Int) (hx : ((s[0]'(by omega)).toNat : Int) = x) (hy : ((s[1]'(by omega)).toNat : Int) = y) :
    (48 ≤ x ∧ x ≤ 57 ∧ 48 ≤ y ∧ y ≤ 57 ∧ DecSays s ((x - 48) * 10 + (y - 48)) true) ∨ (¬ (48 ≤ x ∧ x ≤ 57 ∧ 48 ≤ y ∧ y ≤ 57) ∧ DecSays s 0 false) := by
  by_cases h : 48 ≤ x ∧ x ≤ 57 ∧ 48 ≤ y ∧ y ≤ 57
  · exact Or.inl ⟨h.1, h.2.1, h.2.2.1, h.2.2.2, fun w => dec_yes s hs x y w hx hy h.1 h.2.1 h.2.2.1 h.2.2.2⟩
  · exact Or.inr ⟨h, fun w => dec_no s hs x y w hx hy h⟩

set_option maxHeartbeats 400000 in
/-- One of the two is no number, or too great. -/
theorem ro_big (s : ByteArray) (h6 : s.size = 6) (c0 n m : Int) (a b : Bool) (w : World) (h0 : ((s[0]'(by omega)).toNat : Int) = c0) (h3 : ((s[3]'(by omega)).toNat : Int) = 58) (hp : c0 = 43 ∨ c0 = 45)
    (HA : DecSays (s.extract 1 3) n a) (HB : DecSays (s.extract 4 6) m b) (n0 : 0 ≤ n) (n9 : n ≤ 99) (m0 : 0 ≤ m) (m9 : m ≤ 99) (hbig : a = false ∨ b = false ∨ 23 < n ∨ 59 < m) :
    Calls Try.prog 13 #[.string s] w fun e w' => e = .returned (.tuple #[.int .i64 0, .bool false]) ∧ w = w' := by
  cases a with
  | false =>
    clear hbig
    rcases hp with rfl | rfl
    all_goals
      go_enter Try.func13, Try.ntmps13
      go_wp2_with fail
      refine (HA _).mono ?_
      rintro e w' ⟨rfl, rfl⟩
      go_wp2_with fail
      refine (HB _).mono ?_
      rintro e w' ⟨rfl, rfl⟩
      go_wp2_with fail
      go_ret2
      exact ⟨rfl, rfl⟩
  | true =>
    cases b with
    | false =>
      clear hbig
      rcases hp with rfl | rfl
      all_goals
        go_enter Try.func13, Try.ntmps13
        go_wp2_with fail
        refine (HA _).mono ?_
        rintro e w' ⟨rfl, rfl⟩
        go_wp2_with fail
        refine (HB _).mono ?_
        rintro e w' ⟨rfl, rfl⟩
        go_wp2_with fail
        go_ret2
        exact ⟨rfl, rfl⟩
    | true =>
      have hbig' : 23 < n ∨ (n ≤ 23 ∧ 59 < m) := by
        rcases hbig with h | h | h | h
        · cases h
        · cases h
        · exact Or.inl h
        · omega
      clear hbig
      rcases hbig' with hb | ⟨hb, hc⟩
      all_goals
        rcases hp with rfl | rfl
        all_goals
          go_enter Try.func13, Try.ntmps13
          go_wp2_with fail
          refine (HA _).mono ?_
          rintro e w' ⟨rfl, rfl⟩
          go_wp2_with fail
          refine (HB _).mono ?_
          rintro e w' ⟨rfl, rfl⟩
          go_wp2_with fail
          go_ret2
          exact ⟨rfl, rfl⟩

set_option maxHeartbeats 400000 in
theorem ro_plus (s : ByteArray) (h6 : s.size = 6) (n m : Int) (w : World) (h0 : ((s[0]'(by omega)).toNat : Int) = 43) (h3 : ((s[3]'(by omega)).toNat : Int) = 58)
    (HA : DecSays (s.extract 1 3) n true) (HB : DecSays (s.extract 4 6) m true) (n0 : 0 ≤ n) (n9 : n ≤ 23) (m0 : 0 ≤ m) (m9 : m ≤ 59) :
    Calls Try.prog 13 #[.string s] w fun e w' => e = .returned (.tuple #[.int .i64 (n * 3600 + m * 60), .bool true]) ∧ w = w' := by
  go_enter Try.func13, Try.ntmps13
  go_wp2_with fail
  refine (HA _).mono ?_
  rintro e w' ⟨rfl, rfl⟩
  go_wp2_with fail
  refine (HB _).mono ?_
  rintro e w' ⟨rfl, rfl⟩
  go_wp2_with fail
  go_ret2
  exact ⟨rfl, rfl⟩
set_option maxHeartbeats 400000 in
theorem ro_minus (s : ByteArray) (h6 : s.size = 6) (n m : Int) (w : World) (h0 : ((s[0]'(by omega)).toNat : Int) = 45) (h3 : ((s[3]'(by omega)).toNat : Int) = 58)
    (HA : DecSays (s.extract 1 3) n true) (HB : DecSays (s.extract 4 6) m true) (n0 : 0 ≤ n) (n9 : n ≤ 23) (m0 : 0 ≤ m) (m9 : m ≤ 59) :
    Calls Try.prog 13 #[.string s] w fun e w' => e = .returned (.tuple #[.int .i64 (-(n * 3600 + m * 60)), .bool true]) ∧ w = w' := by
  go_enter Try.func13, Try.ntmps13
  go_wp2_with fail
  refine (HA _).mono ?_
  rintro e w' ⟨rfl, rfl⟩
  go_wp2_with fail
  refine (HB _).mono ?_
  rintro e w' ⟨rfl, rfl⟩
  go_wp2_with fail
  go_ret2
  exact ⟨rfl, rfl⟩

/-- ZZreadOffset hands on what readOffset answers. -/
def RoSays (s : ByteArray) (n : Int) (ok : Bool) : Prop := ∀ w, Calls Try.prog 13 #[.string s] w fun e w' => e = .returned (.tuple #[.int .i64 n, .bool ok]) ∧ w = w'
theorem zzro (s : ByteArray) (n : Int) (ok : Bool) (h : RoSays s n ok) (w : World) :
    Calls Try.prog 10 #[.string s] w fun e w' => e = .returned (.tuple #[.int .i64 n, .bool ok]) ∧ w = w' := by
  go_enter Try.func10, Try.ntmps10
  go_wp2_with fail
  refine (h _).mono ?_
  rintro e w' ⟨rfl, rfl⟩
  go_wp2_with fail
  go_ret2
  exact ⟨rfl, rfl⟩
end Go.Proofs.Qxb6603915a.fnReadOffsetTable
