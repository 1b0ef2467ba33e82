/-
  A PROOF OF 'Rows.FnReadOffsetTableSaid' ('example.com/fixity/fixity/zzlaws_internal_formats_b1.FnReadOffsetTable'): the frame is the guide's (proof-skeleton.mjs); the walk is filled in.
-/
import Derived.Test.Qxb6603915aTable
import Derived.WalkKit
import Derived.ProofKit
import Derived.OpenShut
import Derived.ShutString
namespace Go.Proofs.Qxb6603915a.fnReadOffsetTable
open Go.ChangeShapes Go.WideShapes Go.ChangeAt Go.RowKit
open Go.ChangeMaps (open_string shut_string)
set_option linter.unusedVariables false      -- a walk need not use every 'w<i>' (that an integer argument fits its kind)

theorem own : ownKnob Try.prog.godebug = none := by kernel_rfl

/-! ### THE PLAIN STEPS OF THE TABLE's COUNT -/
theorem grown_trans {a b c : World} (h : Grown a b) (k : Grown b c) : Grown a c :=
  ⟨World.keptBut_trans h.1 k.1, fun x => (k.2.1 x).trans (h.2.1 x), Nat.le_trans h.2.2 k.2.2⟩
theorem secAt_zero (t : Nat) : secAt t 0 = 0 := by simp [secAt]
theorem okAt_zero (t : Nat) : okAt t 0 = false := by simp [okAt]
theorem at_miss {t n : Nat} (h : n ≠ t) : secAt t (n + 1) = secAt t n ∧ okAt t (n + 1) = okAt t n := by
  unfold secAt okAt
  constructor
  · split <;> split <;> first | rfl | omega
  · rw [decide_eq_decide]; omega
theorem at_hit (n : Nat) : secAt n (n + 1) = secOf n ∧ okAt n (n + 1) = true := by
  unfold secAt okAt
  constructor
  · rw [if_pos (by omega)]
  · simp
theorem idx_false (h m : Nat) : idx false h m = 0 * 1440 + h * 60 + m := by unfold idx; rw [if_neg (by simp), Nat.zero_mul]
theorem idx_true (h m : Nat) : idx true h m = 1 * 1440 + h * 60 + m := by unfold idx; rw [if_pos rfl, Nat.one_mul]
theorem hit0 {t h m : Nat} (e : idx false h m = t) (hh : h < 24) (hm : m < 60) : secAt t (0 * 1440 + h * 60 + (m + 1)) = (h : Int) * 3600 + (m : Int) * 60 ∧ okAt t (0 * 1440 + h * 60 + (m + 1)) = true := by
  rw [idx_false] at e
  rw [← Nat.add_assoc, e]
  obtain ⟨h1, h2⟩ := at_hit t
  refine ⟨?_, h2⟩
  rw [h1]
  unfold secOf
  rw [if_pos (by omega)]
  omega
theorem hit1 {t h m : Nat} (e : idx true h m = t) (hh : h < 24) (hm : m < 60) : secAt t (1 * 1440 + h * 60 + (m + 1)) = -((h : Int) * 3600 + (m : Int) * 60) ∧ okAt t (1 * 1440 + h * 60 + (m + 1)) = true := by
  rw [idx_true] at e
  rw [← Nat.add_assoc, e]
  obtain ⟨h1, h2⟩ := at_hit t
  refine ⟨?_, h2⟩
  rw [h1]
  unfold secOf
  rw [if_neg (by omega)]
  omega
theorem miss0 {t h m : Nat} (e : ¬ idx false h m = t) : secAt t (0 * 1440 + h * 60 + (m + 1)) = secAt t (0 * 1440 + h * 60 + m) ∧ okAt t (0 * 1440 + h * 60 + (m + 1)) = okAt t (0 * 1440 + h * 60 + m) := by
  rw [idx_false] at e
  rw [← Nat.add_assoc]
  exact at_miss e
theorem miss1 {t h m : Nat} (e : ¬ idx true h m = t) : secAt t (1 * 1440 + h * 60 + (m + 1)) = secAt t (1 * 1440 + h * 60 + m) ∧ okAt t (1 * 1440 + h * 60 + (m + 1)) = okAt t (1 * 1440 + h * 60 + m) := by
  rw [idx_true] at e
  rw [← Nat.add_assoc]
  exact at_miss e

/-! ### STEP 1: THE WALK -/
set_option maxHeartbeats 1000000 in
theorem walk_in (s : ByteArray) (hs : s.size ≤ 1048576) (w : World) (t : Nat) (HR : RoSays s (secAt t 2880) (okAt t 2880))
    (HE : Hid (∀ (b : Bool) (h m : Nat), h < 24 → m < 60 → ((strOfNums (rend b h m)).toList == s.toList) = decide (idx b h m = t))) :
    Calls Try.prog 4 #[.string s] w fun e w' => e = .returned (.bool true) ∧ Grown w w' := by
  have hd0 : decide ((1048576 : Int) < s.size) = false := by simp; omega
  go_enter Try.func4, Try.ntmps4
  go_wp2_with (first | (go_at_call 9; refine (zz_any _ hs _).mono ?_; rintro e w' ⟨rfl, rfl⟩) | (go_at_call 10; refine (zzro _ _ _ HR _).mono ?_; rintro e w' ⟨rfl, rfl⟩))
  go_loopw [5, 6, 7, 8, 9] (fun sec ok i h m wr => ∃ k : Nat, k ≤ 2 ∧ i = .int .i64 k ∧ sec = .int .i64 (secAt t (k * 1440)) ∧ ok = .bool (okAt t (k * 1440)) ∧ Grown w wr) (fun _ _ i _ _ _ => 2 - (intOf i).toNat)
  case atStart => exact ⟨0, by omega, rfl, by rw [Nat.zero_mul, secAt_zero], by rw [Nat.zero_mul, okAt_zero], Grown.refl _⟩
  case round =>
    obtain ⟨k, hk, rfl, rfl, rfl, hg⟩ := hrel
    by_cases hlt : k < 2
    · have hd1 : decide ((k : Int) < 2) = true := by simp; omega
      go_wp2_with fail
      go_loopw [5, 6, 8, 9] (fun sec ok h m wr => ∃ h' : Nat, h' ≤ 24 ∧ h = .int .i64 h' ∧ sec = .int .i64 (secAt t (k * 1440 + h' * 60)) ∧ ok = .bool (okAt t (k * 1440 + h' * 60)) ∧ Grown w wr) (fun _ _ i _ _ => 24 - (intOf i).toNat)
      case atStart => exact ⟨0, by omega, rfl, by rw [Nat.zero_mul, Nat.add_zero], by rw [Nat.zero_mul, Nat.add_zero], hg⟩
      case round =>
        obtain ⟨h', hh', rfl, rfl, rfl, hg2⟩ := hrel
        by_cases hlt2 : h' < 24
        · have hd2 : decide ((h' : Int) < 24) = true := by simp; omega
          go_wp2_with fail
          go_loopw [5, 6, 9] (fun sec ok m wr => ∃ m' : Nat, m' ≤ 60 ∧ m = .int .i64 m' ∧ sec = .int .i64 (secAt t (k * 1440 + h' * 60 + m')) ∧ ok = .bool (okAt t (k * 1440 + h' * 60 + m')) ∧ Grown w wr) (fun _ _ i _ => 60 - (intOf i).toNat)
          case atStart => exact ⟨0, by omega, rfl, by rw [Nat.add_zero], by rw [Nat.add_zero], hg2⟩
          case round =>
            obtain ⟨m', hm', rfl, rfl, rfl, hg3⟩ := hrel
            by_cases hlt3 : m' < 60
            · obtain hk1 | hk1 : k = 0 ∨ k = 1 := by omega
              · have he := HE.out false h' m' hlt2 hlt3
                by_cases hit : idx false h' m' = t
                · have hq : ((strOfNums (rend false h' m')).toList == s.toList) = true := by rw [he]; simpa using hit
                  clear he
                  have HQ : Hid (secAt t (k * 1440 + h' * 60 + (m' + 1)) = (h' : Int) * 3600 + (m' : Int) * 60 ∧ okAt t (k * 1440 + h' * 60 + (m' + 1)) = true) := by subst hk1; exact hit0 hit hlt2 hlt3
                  have hkb : ((k : Int) == 1) = false := by simp; omega
                  clear hit hk1
                  go_wp2_with (go_at_call 11; refine (render_any _ _ _ (by omega) (by omega) (by omega) (by omega) _).mono ?_; rintro e w' ⟨rfl, hgr⟩)
                  go_roundw
                  case rel => exact ⟨m' + 1, by omega, by go_num, congrArg (Value.int .i64) HQ.out.1.symm, congrArg Value.bool HQ.out.2.symm, grown_trans hg3 hgr⟩
                  case measure => simp [intOf]; omega
                · have hq : ((strOfNums (rend false h' m')).toList == s.toList) = false := by rw [he]; simpa using hit
                  clear he
                  have HQ : Hid (secAt t (k * 1440 + h' * 60 + (m' + 1)) = secAt t (k * 1440 + h' * 60 + m') ∧ okAt t (k * 1440 + h' * 60 + (m' + 1)) = okAt t (k * 1440 + h' * 60 + m')) := by subst hk1; exact miss0 hit
                  have hkb : ((k : Int) == 1) = false := by simp; omega
                  clear hit hk1
                  go_wp2_with (go_at_call 11; refine (render_any _ _ _ (by omega) (by omega) (by omega) (by omega) _).mono ?_; rintro e w' ⟨rfl, hgr⟩)
                  go_roundw
                  case rel => exact ⟨m' + 1, by omega, by go_num, congrArg (Value.int .i64) HQ.out.1.symm, congrArg Value.bool HQ.out.2.symm, grown_trans hg3 hgr⟩
                  case measure => simp [intOf]; omega
              · have he := HE.out true h' m' hlt2 hlt3
                by_cases hit : idx true h' m' = t
                · have hq : ((strOfNums (rend true h' m')).toList == s.toList) = true := by rw [he]; simpa using hit
                  clear he
                  have HQ : Hid (secAt t (k * 1440 + h' * 60 + (m' + 1)) = -((h' : Int) * 3600 + (m' : Int) * 60) ∧ okAt t (k * 1440 + h' * 60 + (m' + 1)) = true) := by subst hk1; exact hit1 hit hlt2 hlt3
                  have hkb : ((k : Int) == 1) = true := by simp; omega
                  clear hit hk1
                  go_wp2_with (go_at_call 11; refine (render_any _ _ _ (by omega) (by omega) (by omega) (by omega) _).mono ?_; rintro e w' ⟨rfl, hgr⟩)
                  go_roundw
                  case rel => exact ⟨m' + 1, by omega, by go_num, congrArg (Value.int .i64) HQ.out.1.symm, congrArg Value.bool HQ.out.2.symm, grown_trans hg3 hgr⟩
                  case measure => simp [intOf]; omega
                · have hq : ((strOfNums (rend true h' m')).toList == s.toList) = false := by rw [he]; simpa using hit
                  clear he
                  have HQ : Hid (secAt t (k * 1440 + h' * 60 + (m' + 1)) = secAt t (k * 1440 + h' * 60 + m') ∧ okAt t (k * 1440 + h' * 60 + (m' + 1)) = okAt t (k * 1440 + h' * 60 + m')) := by subst hk1; exact miss1 hit
                  have hkb : ((k : Int) == 1) = true := by simp; omega
                  clear hit hk1
                  go_wp2_with (go_at_call 11; refine (render_any _ _ _ (by omega) (by omega) (by omega) (by omega) _).mono ?_; rintro e w' ⟨rfl, hgr⟩)
                  go_roundw
                  case rel => exact ⟨m' + 1, by omega, by go_num, congrArg (Value.int .i64) HQ.out.1.symm, congrArg Value.bool HQ.out.2.symm, grown_trans hg3 hgr⟩
                  case measure => simp [intOf]; omega
            · obtain rfl : m' = 60 := by omega
              have HN : Hid (k * 1440 + (h' + 1) * 60 = k * 1440 + h' * 60 + 60) := by show _ = _; omega
              go_wp2_with fail
              go_roundw
              case rel => exact ⟨h' + 1, by omega, by go_num, by rw [HN.out], by rw [HN.out], hg3⟩
              case measure => simp [intOf]; omega
        · obtain rfl : h' = 24 := by omega
          have HN : Hid ((k + 1) * 1440 = k * 1440 + 24 * 60) := by show _ = _; omega
          go_wp2_with fail
          go_roundw
          case rel => exact ⟨k + 1, by omega, by go_num, by rw [HN.out], by rw [HN.out], hg2⟩
          case measure => simp [intOf]; omega
    · obtain rfl : k = 2 := by omega
      go_wp2_with fail
      go_ret
      exact ⟨by simp, hg⟩

theorem walk (a0 : ByteArray) (w0 : a0.size ≤ maxLen) (w : World) :
    Calls Try.prog 4 #[.string a0] w fun e w' => e = .returned (.bool true) ∧ Grown w w' := by
  by_cases hs : a0.size ≤ 1048576
  · obtain ⟨t, _, hr, he⟩ := target a0 hs
    exact walk_in a0 hs w t hr he
  · have hs' : 1048576 < a0.size := by omega
    clear hs
    go_enter Try.func4, Try.ntmps4
    go_wp2_with (go_at_call 9; refine (zz_no _ hs' _).mono ?_; rintro e w' ⟨rfl, rfl⟩)
    go_ret
    exact ⟨rfl, Grown.refl _⟩

/-! ### THE ROW's STEP: WRITTEN OUT: LEAVE IT -/
set_option maxRecDepth 100000 in
theorem lifted (os : Os) (started : os.Started) (H : Type) (enc : TypeId × Value → H) :
    ReturnsInHanded {} Try.checked os 4 .any (Rows.fnReadOffsetTableSpec.pre6 enc Try.prog Try.f4 Rows.fnReadOffsetTableRow.domain false) (Rows.fnReadOffsetTableSpec.post enc Try.prog Try.f4 false true false false) := by
  refine returnsInHanded_of_change (C := Try.checked) own started (by kernel_rfl) Try.func4
    (ChangeSpec.witness6 (enc := enc) (C := Try.checked) false ⟨#[], #[.string ByteArray.empty], []⟩ 8 (by kernel_rfl) (by kernel_rfl) (by kernel_rfl) (by kernel_rfl)) ?_
  intro W base args ds gs before hval0 hW hcnd _
  have hval : ∀ (j : Nat) t v, Try.f4.params[j]? = some t → args[j]? = some v → Value.okWide Try.prog W .any base t v := hval0
  have hW' := hW
  obtain ⟨p, q, hA0, hV, rfl, hfz, hnd⟩ := hW
  have hA : DataW.TrodAll enc Try.prog W 0 (fun _ => true) true Try.f4.params.toList args.toList ds p := hA0
  rw [Try.params4] at hA hval
  obtain ⟨v0, vs0, d0, ds0, p0, q0, hargs, rfl, rfl, h0, r0⟩ := trodAll_cons hA
  obtain ⟨rfl, rfl, rfl⟩ := trodAll_nil r0
  obtain rfl : args = #[v0] := by cases args; simp_all
  obtain ⟨rfl, rfl⟩ := trodVars_none hV
  obtain ⟨a0, rfl, rfl, rfl, w0⟩ := open_string Try.underlying9 (hval 0 9 v0 rfl rfl) h0
  clear hA0 hval0
  simp only [List.append_nil] at hW'
  refine (walk a0 w0 W).mono fun e W' ⟨he, hg⟩ => ?_
  subst he
  exact ⟨_, rfl, post_of_same (pa := []) (pv := []) hW' (fun _ _ _ => (trodAll_cons_mk (shut_bool Try.underlying4 _) trodAll_mk0)) (fun sp _ => (trodAll_cons_mk (shut_string Try.underlying9 w0) trodAll_mk0)) (fun _ _ => rfl) rfl
    (hg.frame _) hg.2.1 (ok_one (by kernel_rfl) rfl (okWide_bool_mk Try.underlying4 _))⟩

theorem over : Rows.fnReadOffsetTableRow.holds Try.pinned (OpenSpec.ofChange Rows.fnReadOffsetTableSpec) :=
  OpenClaim.holds_of_wide 4 Try.f4 rfl rfl rfl rfl rfl rfl rfl ⟨rfl, rfl, rfl, rfl, rfl⟩ rfl rfl rfl rfl rfl (by kernel_rfl) Try.func4 (by kernel_rfl)
    (of_decide_eq_true (by kernel_rfl)) (by unfold Func.isWrapper; first | (rw [if_pos (by decide +kernel)]; kernel_rfl) | (rw [if_neg (by decide +kernel)]; exact ⟨rfl, rfl⟩))
    (fun os started H enc _ => lifted os started H enc)

/-- ████ THE STATEMENT ████ -/
theorem proved : Rows.FnReadOffsetTableSaid :=
  over
#print axioms proved
end Go.Proofs.Qxb6603915a.fnReadOffsetTable
