/-
  A PROOF OF 'Rows.FnChooseNeverLosesAFlagByAnotherAlternativeSaid' ('example.com/endstate/endstate/zzlaws_pkg_analysis_b1.FnChooseNeverLosesAFlagByAnotherAlternative'): the frame is the guide's (proof-skeleton.mjs); the walk is filled in.
-/
import Derived.Test.Qxb6604014aChooseLaw
import Derived.Lib.JoinLaws
import Derived.WalkKit
import Derived.ProofKit
import Derived.OpenShut
import Derived.ShutString
import Derived.ChangeOld
import Derived.Below
namespace Go.Proofs.Qxb6604014a.fnChooseNeverLosesAFlagByAnotherAlternative
open Go.ChangeShapes Go.WideShapes Go.ChangeAt Go.RowKit
open Go.ChangeMaps (open_string shut_string)
set_option linter.unusedVariables false

theorem own : ownKnob Try.prog.godebug = none := by kernel_rfl
theorem laidOut : laidOutB Try.prog = true := by kernel_rfl

/-- WHAT THE WALK IS TOLD OF A SLICE OF INTEGERS THAT CAME IN: it is nil; or it leads to a row of 'cap' cells, the numbers 'zs' (the first 'len' are its elements, the rest its spare room), each fitting its kind. -/
def IsRow (k : IntKind) (w : World) (a : Option Addr) (len cap : Nat) (zs : List Int) : Prop :=
  (a = none ∧ len = 0 ∧ cap = 0 ∧ zs = []) ∨
  ∃ x, a = some x ∧ len ≤ cap ∧ cap ≤ maxLen ∧ zs.length = cap ∧ (∀ i, i < zs.length → w.cell? (x.add i) = some (.int k (zs.getD i 0))) ∧ ∀ n ∈ zs, (Lit.int k n).wf = true

/-! ### what 'IsRow' gives a reader -/
theorem cell_lt {w : World} {a : Addr} {v : Value} (h : w.cell? a = some v) : a.block < w.heap.size := by
  rcases Nat.lt_or_ge a.block w.heap.size with h1 | h1
  · exact h1
  · have e : w.heap[a.block]? = none := Array.getElem?_eq_none h1
    simp [World.cell?, e] at h

theorem isRow_rd {k : IntKind} {w : World} {a : Option Addr} {len cap : Nat} {zs : List Int} (h : IsRow k w a len cap zs) : Rd w a len (iv k (fun i => zs.getD i 0)) ∧ len ≤ maxLen := by
  rcases h with ⟨rfl, rfl, rfl, rfl⟩ | ⟨x, rfl, hl, hm, hz, hc, _⟩
  · exact ⟨Rd.zero _ _ _, Nat.zero_le _⟩
  · refine ⟨fun i hi => ?_, Nat.le_trans hl hm⟩
    have h1 := hc i (by omega)
    obtain ⟨b, off, spot⟩ := x
    have hs : spot = none := by simpa [Addr.add] using World.cell?_spot (hc 0 (by omega))
    subst hs
    rw [add_plain] at h1
    exact ⟨b, off, rfl, cell_lt h1, h1⟩

theorem isRow_nonneg {w : World} {a : Option Addr} {len cap : Nat} {zs : List Int} (h : IsRow .u8 w a len cap zs) : ∀ i, 0 ≤ zs.getD i 0 := by
  intro i
  rcases h with ⟨_, _, _, rfl⟩ | ⟨x, _, _, _, _, _, hw⟩
  · simp
  · rcases Nat.lt_or_ge i zs.length with h1 | h1
    · have e : zs.getD i 0 = zs[i] := by simp [h1]
      rw [e]
      have := hw zs[i] (List.getElem_mem h1)
      exact (bounds_u8 this).1
    · simp [h1]

set_option maxHeartbeats 2000000 in
/-- The law, the sizes and the ids within their bounds. -/
theorem law_rest (a : Option Addr) (n c : Nat) (t : Nat → Int) (b : Option Addr) (m d : Nat) (y : Nat → Int) (x : Int) (w : World) (hn : n ≤ 65536) (hm : m ≤ 65536) (ha : Rd w a n (iv .i64 t)) (hb : Rd w b m (iv .u8 y)) (y0 : Hid (∀ i, i < m → 0 ≤ y i))
    (hr : InRange n t m) (hx0 : 0 ≤ x) (hx1 : x < m) :
    Calls Try.prog 5 #[.slice a n c, .slice b m d, .int .i64 x] w fun e w' => e = .returned (.bool true) ∧ Below w.heap.size w w' := by
  have HA := hide ha
  have HB := hide hb
  have HR := hide hr
  have hz1 : decide (x < 0) = false := by simp; omega
  have hz2 : decide ((m : Int) ≤ x) = false := by simp; omega
  have H18 : Hid (∀ w1, w = w1 → Calls Try.prog 18 #[.slice a n c, .int .i64 m] w1 fun e w' => e = .returned (.bool true) ∧ w1 = w') := by
    rintro w1 rfl
    refine (range18 a n c m t hn hm w ha).mono ?_
    rintro e w' ⟨⟨rfl, _⟩ | ⟨rfl, h⟩, rfl⟩
    · exact ⟨rfl, rfl⟩
    · exact absurd hr h
  clear ha hb hr
  go_enter Try.func5, Try.ntmps5
  go_wp2_with fail
  refine (zz23 _ _ _ _ _ _ _ ?_ ?_ _).mono ?_
  iterate 2 (unfold maxLen; omega)
  rintro e w' ⟨⟨u, rfl⟩, rfl⟩
  cases u
  · go_wp2_with fail
    go_ret
    exact ⟨rfl, Below.refl _ _⟩
  · go_wp2_with fail
    refine (big17_no _ _ _ _ _ _ hn hm _).mono ?_
    rintro e w' ⟨rfl, rfl⟩
    go_wp2_with fail
    refine (H18.out _ rfl).mono ?_
    rintro e w' ⟨rfl, rfl⟩
    go_wp2_with fail
    go_loop [7] (fun i => ∃ k : Nat, k ≤ m ∧ i = .int .i64 k ∧ Hid (∀ j, j < k → y j ≤ 3)) (fun i => m - (intOf i).toNat)
    case atStart => exact ⟨0, Nat.zero_le _, rfl, fun j hj => absurd hj (Nat.not_lt_zero j)⟩
    case round =>
      obtain ⟨k, hk, rfl, HK⟩ := hrel
      by_cases hlt : k < m
      · obtain ⟨b1, off1, rfl, hb1, hc1⟩ := HB.out k hlt
        unfold iv at hc1
        by_cases h3 : y k ≤ 3
        · have HK' : Hid (∀ j, j < k + 1 → y j ≤ 3) := by
            intro j hj
            by_cases e : j = k
            · subst e; exact h3
            · exact HK.out j (by omega)
          go_wp2_with fail
          go_round
          case rel => exact ⟨k + 1, by omega, by go_num, HK'⟩
          case measure => simp [intOf]; omega
        · have h3' : 3 < y k := by omega
          clear h3
          go_wp2_with fail
          go_ret
          exact ⟨rfl, Below.refl _ _⟩
      · obtain rfl : k = m := by omega
        have HF : Hid (∀ i, i < k → Flag (y i)) := fun i hi => flag_of (y0.out i hi) (HK.out i hi)
        have HL := hide (never_loses n k t y x HR.out hx0 hx1 HF.out)
        clear HK
        go_wp2_with fail
        refine (clone19 _ _ _ t _ hn HA.out).mono ?_
        rintro e w1 ⟨⟨a1, c1, rfl, hA1⟩, hB1⟩
        have HA1 := hide hA1
        have HB1 := hide (HB.out.below hB1)
        have HL1 := hide hB1
        clear hA1 hB1
        go_wp2_with fail
        refine (clone20 _ _ _ y _ hm HB1.out).mono ?_
        rintro e w2 ⟨⟨b2, d2, rfl, hB2⟩, hL2⟩
        have HB2 := hide hB2
        have HA2 := hide (HA1.out.below hL2)
        have HL2 := hide (below_trans HL1.out hL2)
        clear hB2 hL2 HA1 HB1 HL1
        go_wp2_with fail
        refine (flags22 _ _ _ y _ hm HB2.out).mono ?_
        rintro e w3 ⟨⟨f3, d3, rfl, hF3⟩, hL3⟩
        have HF3 := hide hF3
        have HA3 := hide (HA2.out.below hL3)
        have HB3 := hide (HB2.out.below hL3)
        have HL3 := hide (below_trans HL2.out hL3)
        clear hF3 hL3 HB2 HL2 HA2
        go_wp2_with fail
        refine (zzchoose21 _ _ _ t _ _ _ y _ (by omega) hm HA3.out HF3.out HR.out).mono ?_
        rintro e w4 ⟨rfl, hL4⟩
        have HA4 := hide (HA3.out.below hL4)
        have HB4 := hide (HB3.out.below hL4)
        have HL4 := hide (below_trans HL3.out hL4)
        clear hL4 HL3 HB3 HA3 HF3
        go_wp2_with fail
        refine (cover24 _ (chooseV_five _ _) _).mono ?_
        rintro e w' ⟨rfl, rfl⟩
        generalize hcb : coverV (chooseV n fun j => y (t j).toNat) = cb at *
        clear hcb
        have hmk := run_make_room (P := Try.prog) 35 3 (.int .i64 0) 8 Try.underlying35 Try.info3 rfl .i64 .i64 (n + 1) (by omega) (by omega)
        rw [show ((n + 1 : Nat) : Int) = (n : Int) + 1 from by omega] at hmk
        obtain ⟨i0, hi, q0, q1, q2⟩ := info_parts Try.info3
        go_wp2_with fail
        clear hmk
        go_loopw [9, 10] (fun v i wr => ∃ k : Nat, k ≤ n ∧ i = .int .i64 k ∧ wr.ownsRow w4.heap.size 3 1 v k (gat t k) ∧ Below w4.heap.size w4 wr) (fun _ i _ => n - (intOf i).toNat)
        case atStart => exact ⟨0, Nat.zero_le _, rfl, World.ownsRow_made w4 _ (n + 1) (Nat.le_refl _) (by unfold maxLen; omega) (by rw [size_madeCells]; omega), (Below.refl _ _).alloc (Nat.le_refl _) _⟩
        case round =>
          obtain ⟨j, hj, rfl, hown, hbel⟩ := hrel
          have HBE := hide hbel
          by_cases hlt2 : j < n
          · obtain ⟨b5, off5, rfl, hb5, hc5⟩ := HA4.out j hlt2
            have hcell : wr.cell? ⟨b5, off5 + j, none⟩ = some (.int .i64 (t j)) := by rw [hbel.cell hb5]; exact hc5
            have hsz := hbel.size
            clear hc5 hbel
            go_wp2_with (at_builtin; refine wpList_append_own _ rfl _ _ 35 rfl w4.heap.size 3 i0 (.int .i64 0) 1 8 Try.underlying35 hi q0 q1 q2 rfl (by decide) _ _ _ rfl (hown.alloc _) ⟨wr.heap.size, 0, none⟩ 1 1 [.int .i64 (t j)] rfl rfl ?c1 ?c2 ?c3 ?c4 ?c5 ?_)
            case c1 =>
              intro i u hu
              match i, hu with
              | 0, hu => simp at hu; subst hu; simp [Addr.add]
            case c2 => intro u hu; simp at hu; subst hu; rfl
            case c3 => unfold maxLen; omega
            case c4 => omega
            case c5 => simp; omega
            · intro v' w5 hown' hgrow _
              have R1 : Hid (w5.ownsRow w4.heap.size 3 1 v' (j + 1) (gat t (j + 1))) := by rw [gat_succ]; exact hown'
              have R2 := hide ((HBE.out.alloc (by omega) _).grown hgrow (by simp; omega) (fun q hq => (hown.lt q hq).1))
              clear hown' hgrow hown
              go_wp2_with fail
              go_roundw
              case rel => exact ⟨j + 1, by omega, by go_num, R1.out, R2.out⟩
              case measure => simp [intOf]; omega
          · obtain rfl : j = n := by omega
            have hsz := hbel.size
            clear hbel
            go_wp2_with (at_builtin; refine wpList_append_own _ rfl _ _ 35 rfl w4.heap.size 3 i0 (.int .i64 0) 1 8 Try.underlying35 hi q0 q1 q2 rfl (by decide) _ _ _ rfl (hown.alloc _) ⟨wr.heap.size, 0, none⟩ 1 1 [.int .i64 x] rfl rfl ?d1 ?d2 ?d3 ?d4 ?d5 ?_)
            case d1 =>
              intro i u hu
              match i, hu with
              | 0, hu => simp at hu; subst hu; simp [Addr.add]
            case d2 => intro u hu; simp at hu; subst hu; rfl
            case d3 => unfold maxLen; omega
            case d4 => omega
            case d5 => simp; omega
            · intro v' w5 hown' hgrow _
              have R2 := hide ((HBE.out.alloc (by omega) _).grown hgrow (by simp; omega) (fun q hq => (hown.lt q hq).1))
              obtain ⟨g, cap, hv⟩ := owns_form hown'
              rw [hv] at hown'
              have R1 := hide (gat_read hown')
              have HB5 := hide (HB4.out.below R2.out)
              have HL5 := hide (below_trans HL4.out R2.out)
              rw [hv]
              clear hown' hgrow hown hv
              go_wp2_with fail
              refine (flags22 _ _ _ y _ hm HB5.out).mono ?_
              rintro e w6 ⟨⟨f6, d6, rfl, hF6⟩, hL6⟩
              have HF6 := hide hF6
              have HM6 := hide (R1.out.below hL6)
              have HL6 := hide (below_trans HL5.out hL6)
              clear hF6 hL6 HL5 HB5 R1 R2
              go_wp2_with fail
              refine (zzchoose21 _ (j + 1) _ (plus j t x) _ _ _ y _ (by omega) hm HM6.out HF6.out (plus_range HR.out hx0 hx1)).mono ?_
              rintro e w7 ⟨rfl, hL7⟩
              have HL7 := hide (below_trans HL6.out hL7)
              clear hL7 HL6 HM6 HF6
              go_wp2_with fail
              refine (cover24 _ (chooseV_five _ _) _).mono ?_
              rintro e w' ⟨rfl, rfl⟩
              obtain ⟨l1, l2, l3⟩ := HL.out
              generalize coverV (chooseV (j + 1) fun i => y (plus j t x i).toNat) = ca at *
              go_wp2_with fail
              go_ret
              exact ⟨rfl, HL7.out⟩

set_option maxHeartbeats 1000000 in
/-- The sizes are out of bounds: the law says true at once. -/
theorem law_big (a : Option Addr) (n c : Nat) (b : Option Addr) (m d : Nat) (x : Int) (w : World) (hn : n ≤ maxLen) (hm : m ≤ maxLen) (h : 65536 < n ∨ 65536 < m) :
    Calls Try.prog 5 #[.slice a n c, .slice b m d, .int .i64 x] w fun e w' => e = .returned (.bool true) ∧ Below w.heap.size w w' := by
  have H17 := hide (fun w => big17_yes a b n c m d hn hm h w)
  have H23 := hide (fun w => zz23 a b n c m d x hn hm w)
  clear h
  unfold maxLen at hn hm
  go_enter Try.func5, Try.ntmps5
  go_wp2_with fail
  refine (H23.out _).mono ?_
  rintro e w' ⟨⟨u, rfl⟩, rfl⟩
  cases u
  · go_wp2_with fail
    go_ret
    exact ⟨rfl, Below.refl _ _⟩
  · go_wp2_with fail
    refine (H17.out _).mono ?_
    rintro e w' ⟨rfl, rfl⟩
    go_wp2_with fail
    go_ret
    exact ⟨rfl, Below.refl _ _⟩

set_option maxHeartbeats 1000000 in
/-- A task id, or the one more, is out of range: the law says true at once. -/
theorem law_out (a : Option Addr) (n c : Nat) (t : Nat → Int) (b : Option Addr) (m d : Nat) (x : Int) (w : World) (hn : n ≤ 65536) (hm : m ≤ 65536) (ha : Rd w a n (iv .i64 t)) (h : ¬ InRange n t m ∨ InRange n t m ∧ ¬ (0 ≤ x ∧ x < m)) :
    Calls Try.prog 5 #[.slice a n c, .slice b m d, .int .i64 x] w fun e w' => e = .returned (.bool true) ∧ Below w.heap.size w w' := by
  have H17 := hide (fun w => big17_no a b n c m d hn hm w)
  have H23 := hide (fun w => zz23 a b n c m d x (by unfold maxLen; omega) (by unfold maxLen; omega) w)
  rcases h with h | ⟨h, hx⟩
  · have H18 : Hid (Calls Try.prog 18 #[.slice a n c, .int .i64 m] w fun e w' => e = .returned (.bool false) ∧ w = w') := by
      refine (range18 a n c m t hn hm w ha).mono ?_
      rintro e w' ⟨⟨rfl, h'⟩ | ⟨rfl, _⟩, rfl⟩
      · exact absurd h' h
      · exact ⟨rfl, rfl⟩
    clear h ha
    go_enter Try.func5, Try.ntmps5
    go_wp2_with fail
    refine (H23.out _).mono ?_
    rintro e w' ⟨⟨u, rfl⟩, rfl⟩
    cases u
    · go_wp2_with fail
      go_ret
      exact ⟨rfl, Below.refl _ _⟩
    · go_wp2_with fail
      refine (H17.out _).mono ?_
      rintro e w' ⟨rfl, rfl⟩
      go_wp2_with fail
      refine H18.out.mono ?_
      rintro e w' ⟨rfl, rfl⟩
      go_wp2_with fail
      go_ret
      exact ⟨rfl, Below.refl _ _⟩
  · have H18 : Hid (Calls Try.prog 18 #[.slice a n c, .int .i64 m] w fun e w' => e = .returned (.bool true) ∧ w = w') := by
      refine (range18 a n c m t hn hm w ha).mono ?_
      rintro e w' ⟨⟨rfl, _⟩ | ⟨rfl, h'⟩, rfl⟩
      · exact ⟨rfl, rfl⟩
      · exact absurd h h'
    clear h ha
    by_cases hx0 : x < 0
    · clear hx
      go_enter Try.func5, Try.ntmps5
      go_wp2_with fail
      refine (H23.out _).mono ?_
      rintro e w' ⟨⟨u, rfl⟩, rfl⟩
      cases u
      · go_wp2_with fail
        go_ret
        exact ⟨rfl, Below.refl _ _⟩
      · go_wp2_with fail
        refine (H17.out _).mono ?_
        rintro e w' ⟨rfl, rfl⟩
        go_wp2_with fail
        refine H18.out.mono ?_
        rintro e w' ⟨rfl, rfl⟩
        go_wp2_with fail
        go_ret
        exact ⟨rfl, Below.refl _ _⟩
    · have hx1 : (m : Int) ≤ x := by omega
      have hx2 : 0 ≤ x := by omega
      clear hx hx0
      go_enter Try.func5, Try.ntmps5
      go_wp2_with fail
      refine (H23.out _).mono ?_
      rintro e w' ⟨⟨u, rfl⟩, rfl⟩
      cases u
      · go_wp2_with fail
        go_ret
        exact ⟨rfl, Below.refl _ _⟩
      · go_wp2_with fail
        refine (H17.out _).mono ?_
        rintro e w' ⟨rfl, rfl⟩
        go_wp2_with fail
        refine H18.out.mono ?_
        rintro e w' ⟨rfl, rfl⟩
        go_wp2_with fail
        go_ret
        exact ⟨rfl, Below.refl _ _⟩

theorem walk (a0 : Option Addr) (len0 cap0 : Nat) (z0 : List Int) (a1 : Option Addr) (len1 cap1 : Nat) (z1 : List Int) (a2 : Int) (w : World) (w0 : IsRow .i64 w a0 len0 cap0 z0) (w1 : IsRow .u8 w a1 len1 cap1 z1) (w2 : (Lit.int .i64 a2).wf = true) :
    Calls Try.prog 5 #[.slice a0 len0 cap0, .slice a1 len1 cap1, .int .i64 a2] w fun e w' => e = .returned (.bool true) ∧ Below w.heap.size w w' := by
  obtain ⟨h0, l0⟩ := isRow_rd w0
  obtain ⟨h1, l1⟩ := isRow_rd w1
  by_cases hn : len0 ≤ 65536
  · by_cases hm : len1 ≤ 65536
    · by_cases hr : InRange len0 (fun i => z0.getD i 0) len1
      · by_cases hx : 0 ≤ a2 ∧ a2 < len1
        · exact law_rest a0 len0 cap0 _ a1 len1 cap1 _ a2 w hn hm h0 h1 (fun i _ => isRow_nonneg w1 i) hr hx.1 hx.2
        · exact law_out a0 len0 cap0 _ a1 len1 cap1 a2 w hn hm h0 (Or.inr ⟨hr, hx⟩)
      · exact law_out a0 len0 cap0 _ a1 len1 cap1 a2 w hn hm h0 (Or.inl hr)
    · exact law_big a0 len0 cap0 a1 len1 cap1 a2 w l0 l1 (Or.inr (by omega))
  · exact law_big a0 len0 cap0 a1 len1 cap1 a2 w l0 l1 (Or.inl (by omega))

/-! ### THE ROW's STEP: WRITTEN OUT: LEAVE IT -/
set_option maxRecDepth 100000 in
theorem lifted (os : Os) (started : os.Started) (H : Type) (enc : TypeId × Value → H) :
    ReturnsInHanded {} Try.checked os 5 .any (Rows.fnChooseNeverLosesAFlagByAnotherAlternativeSpec.pre6 enc Try.prog Try.f5 Rows.fnChooseNeverLosesAFlagByAnotherAlternativeRow.domain false) (Rows.fnChooseNeverLosesAFlagByAnotherAlternativeSpec.post enc Try.prog Try.f5 false true false false) := by
  refine returnsInHanded_of_change (C := Try.checked) own started (by kernel_rfl) Try.func5
    (ChangeSpec.witness6 (enc := enc) (C := Try.checked) false ⟨#[], #[.slice none 0 0, .slice none 0 0, .int .i64 0], []⟩ 8 (by kernel_rfl) (by kernel_rfl) (by kernel_rfl) (by kernel_rfl)) ?_
  intro W base args ds gs before hval0 hW hcnd _
  have hval : ∀ (j : Nat) t v, Try.f5.params[j]? = some t → args[j]? = some v → Value.okWide Try.prog W .any base t v := hval0
  have hW' := hW
  obtain ⟨p, q, hA0, hV, rfl, hfz, hnd⟩ := hW
  have hA : DataW.TrodAll enc Try.prog W 0 (fun _ => true) true Try.f5.params.toList args.toList ds p := hA0
  rw [Try.params5] at hA hval
  obtain ⟨v0, vs0, d0, ds0, p0, q0, hargs, rfl, rfl, h0, r0⟩ := trodAll_cons hA
  obtain ⟨v1, vs1, d1, ds1, p1, q1, rfl, rfl, rfl, h1, r1⟩ := trodAll_cons r0
  obtain ⟨v2, vs2, d2, ds2, p2, q2, rfl, rfl, rfl, h2, r2⟩ := trodAll_cons r1
  obtain ⟨rfl, rfl, rfl⟩ := trodAll_nil r2
  obtain rfl : args = #[v0, v1, v2] := by cases args; simp_all
  obtain ⟨rfl, rfl⟩ := trodVars_none hV
  obtain ⟨a0, len0, cap0, rfl⟩ := okWide_slice Try.underlying35 (hval 0 35 v0 rfl rfl)
  have k0 := h0
  have lt0 : ∀ x ∈ p0, x.block < W.heap.size := by obtain ⟨m, hm⟩ := k0; exact DataW.trod_lt m _ _ _ hm
  obtain ⟨z0, w0⟩ : ∃ zs, IsRow .i64 W a0 len0 cap0 zs := by
    obtain ⟨fuel, hf⟩ := h0
    rcases open_ints Try.underlying35 Try.underlying3 (by kernel_rfl) hf with ⟨hcs, _⟩ | ⟨x, l, c, zs, hcs, _, hl, hm, hz, _, hcell, hwz⟩
    · simp [Value.cells] at hcs
      obtain ⟨rfl, rfl, rfl⟩ := hcs
      exact ⟨[], .inl ⟨rfl, rfl, rfl, rfl⟩⟩
    · simp [Value.cells] at hcs
      obtain ⟨rfl, rfl, rfl⟩ := hcs
      exact ⟨zs, .inr ⟨_, rfl, hl, hm, by simpa using hz, hcell, hwz⟩⟩
  obtain ⟨a1, len1, cap1, rfl⟩ := okWide_slice Try.underlying36 (hval 1 36 v1 rfl rfl)
  have k1 := h1
  have lt1 : ∀ x ∈ p1, x.block < W.heap.size := by obtain ⟨m, hm⟩ := k1; exact DataW.trod_lt m _ _ _ hm
  obtain ⟨z1, w1⟩ : ∃ zs, IsRow .u8 W a1 len1 cap1 zs := by
    obtain ⟨fuel, hf⟩ := h1
    rcases open_ints Try.underlying36 Try.underlying5 (by kernel_rfl) hf with ⟨hcs, _⟩ | ⟨x, l, c, zs, hcs, _, hl, hm, hz, _, hcell, hwz⟩
    · simp [Value.cells] at hcs
      obtain ⟨rfl, rfl, rfl⟩ := hcs
      exact ⟨[], .inl ⟨rfl, rfl, rfl, rfl⟩⟩
    · simp [Value.cells] at hcs
      obtain ⟨rfl, rfl, rfl⟩ := hcs
      exact ⟨zs, .inr ⟨_, rfl, hl, hm, by simpa using hz, hcell, hwz⟩⟩
  obtain ⟨a2, rfl, rfl, rfl, w2⟩ := open_int Try.underlying3 (hval 2 3 v2 rfl rfl) h2
  clear hA0 hval0
  refine (walk a0 len0 cap0 z0 a1 len1 cap1 z1 a2 W w0 w1 w2).mono fun e W' ⟨he, bel⟩ => ?_
  subst he
  exact ⟨_, rfl, _, _, _, [], _, [], hW', trodAll_mk1 (shut_bool Try.underlying4 _), (trodAll_cons_mk (Below.trod laidOut (by kernel_rfl) (of_decide_eq_true (by kernel_rfl)) k0 bel lt0) (trodAll_cons_mk (Below.trod laidOut (by kernel_rfl) (of_decide_eq_true (by kernel_rfl)) k1 bel lt1) (trodAll_cons_mk (shut_int Try.underlying3 w2) trodAll_mk0))), rfl, bel.frame _, fun h => by cases h⟩

theorem over : Rows.fnChooseNeverLosesAFlagByAnotherAlternativeRow.holds Try.pinned (OpenSpec.ofChange Rows.fnChooseNeverLosesAFlagByAnotherAlternativeSpec) :=
  OpenClaim.holds_of_wide 5 Try.f5 rfl rfl rfl rfl rfl rfl rfl ⟨rfl, rfl, rfl, rfl, rfl⟩ rfl rfl rfl rfl rfl (by kernel_rfl) Try.func5 (by kernel_rfl)
    (of_decide_eq_true (by kernel_rfl)) (by unfold Func.isWrapper; first | (rw [if_pos (by decide +kernel)]; kernel_rfl) | (rw [if_neg (by decide +kernel)]; exact ⟨rfl, rfl⟩))
    (fun os started H enc _ => lifted os started H enc)

/-- ████ THE STATEMENT ████ -/
theorem proved : Rows.FnChooseNeverLosesAFlagByAnotherAlternativeSaid := over
#print axioms proved
end Go.Proofs.Qxb6604014a.fnChooseNeverLosesAFlagByAnotherAlternative
