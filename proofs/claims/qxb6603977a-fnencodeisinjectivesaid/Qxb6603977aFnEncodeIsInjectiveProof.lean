/-
  A PROOF OF 'Rows.FnEncodeIsInjectiveSaid' ('example.com/kasmere/kasmere/zzlaws_plmn_b1.FnEncodeIsInjective'): the frame is the guide's (proof-skeleton.mjs); the walk is filled in.
-/
import Derived.Test.Qxb6603977aEnc
import Derived.Laws.StructEq
import Derived.Laws.Tables
import Derived.Laws.Cover2
import Derived.WalkKit
import Derived.ProofKit
import Derived.OpenShut
import Derived.ShutString
namespace Go.Proofs.Qxb6603977a.fnEncodeIsInjective
open Go.ChangeShapes Go.WideShapes Go.ChangeAt Go.RowKit
open Go.ChangeMaps (open_string shut_string)
set_option linter.unusedVariables false      -- a walk need not use every 'w<i>' (that an integer argument fits its kind)

theorem own : ownKnob Try.prog.godebug = none := by kernel_rfl

/-! ### '==' on two arrays of three bytes -/
theorem eq23 (a b c x y z : Int) (w : World) : (Op.equalIn 10000 23 (.agg #[.int .u8 a, .int .u8 b, .int .u8 c]) (.agg #[.int .u8 x, .int .u8 y, .int .u8 z])).run Try.prog w = .ok (a == x && (b == y && c == z)) w := by
  have u5 := Try.underlying5
  have a5 := Try.isAgg5
  have z5 := Try.sizeOf5
  rw [show (10000 : Nat) = 9999 + 1 from rfl, Op.equalIn]
  simp only [Sem.run_bind, run_underlying Try.underlying23, Result.andThen_ok]
  simp only [Std.Legacy.Range.forIn_eq_forIn_range', Std.Legacy.Range.size, Nat.sub_zero, Nat.add_sub_cancel, Nat.div_one, List.range'_succ, List.range'_zero, List.forIn_cons, List.forIn_nil]
  go_simp
  by_cases h1 : a = x <;> by_cases h2 : b = y <;> by_cases h3 : c = z <;> simp [h1, h2, h3]

theorem grown_trans {a b c : World} (h : Grown a b) (k : Grown b c) : Grown a c :=
  ⟨World.keptBut_trans h.1 k.1, fun x => (k.2.1 x).trans (h.2.1 x), Nat.le_trans h.2.2 k.2.2⟩

/-! ### STEP 1: THE WALK, both identities valid: by what the two comparisons of texts and the one of octets say -/
set_option maxHeartbeats 1000000 in
theorem main_walk (pA qA pB qB : ByteArray) (hpA : pA.size = 3) (hpB : pB.size = 3) (hqA : qA.size ≤ 3) (hqB : qB.size ≤ 3) (x0 x1 x2 y0 y1 y2 : Int) (VA : ValSays pA qA true) (VB : ValSays pB qB true) (EA : EncSays pA qA x0 x1 x2) (EB : EncSays pB qB y0 y1 y2)
    (w : World) (bp bq bo : Bool) (hpe : (pA.toList == pB.toList) = bp) (hqe : (qA.toList == qB.toList) = bq) (ho : (x0 == y0 && (x1 == y1 && x2 == y2)) = bo) (hb : bo = (bp && bq)) :
    Calls Try.prog 4 #[.string pA, .string qA, .string pB, .string qB] w fun e w' => e = .returned (.bool true) ∧ Grown w w' := by
  have E0 : ∀ w, (Op.equalIn 10000 23 (.agg #[.int .u8 x0, .int .u8 x1, .int .u8 x2]) (.agg #[.int .u8 y0, .int .u8 y1, .int .u8 y2])).run Try.prog w = .ok bo w := fun w => by rw [eq23, ho]
  clear ho
  subst hb
  cases bp <;> cases bq
  all_goals
    simp only [Bool.and_false, Bool.and_true] at E0
    go_enter Try.func4, Try.ntmps4
    go_wp2_with fail
    refine (zz_any _ _ _ _ ?_ ?_ ?_ ?_ _).mono ?_
    iterate 4 (unfold maxLen; omega)
    rintro e w' ⟨⟨x, rfl⟩, rfl⟩
    cases x
    · go_wp2_with fail
      go_ret
      exact ⟨rfl, Grown.refl _⟩
    · go_wp2_with fail
      refine (VA _).mono ?_
      rintro e w' ⟨rfl, rfl⟩
      go_wp2_with fail
      refine (VB _).mono ?_
      rintro e w' ⟨rfl, rfl⟩
      go_wp2_with fail
      refine (EA _).mono ?_
      rintro e w1 ⟨rfl, g1, b1⟩
      have G1 : Hid _ := g1
      clear b1 g1
      go_wp2_with fail
      refine (EB _).mono ?_
      rintro e w2 ⟨rfl, g2, b2⟩
      have k0 : w2.cell? ⟨w1.heap.size, 0, none⟩ = some (.int .u8 x0) := by rw [b2.cell (by simp)]; simp [go_sem]
      have k1 : w2.cell? ⟨w1.heap.size, 1, none⟩ = some (.int .u8 x1) := by rw [b2.cell (by simp)]; simp [go_sem]
      have k2 : w2.cell? ⟨w1.heap.size, 2, none⟩ = some (.int .u8 x2) := by rw [b2.cell (by simp)]; simp [go_sem]
      have hz : w1.heap.size < w2.heap.size := by have := b2.size; simp at this; omega
      have G2 : Hid _ := g2
      clear b2 g2
      go_wp2_with fail
      go_ret
      exact ⟨rfl, Grown.alloc (grown_trans (Grown.alloc G1.out _ _) G2.out) _ _⟩

/-! ### THE PLAIN LAW: the octets tell the texts apart -/
theorem size_list (s : ByteArray) (n : Nat) (h : s.size = n) : s.data.toList.length = n := by
  rw [Array.length_toList]; exact h
theorem list2 {α : Type} (l : List α) (h : l.length = 2) : ∃ a b, l = [a, b] := by
  match l, h with
  | [a, b], _ => exact ⟨a, b, rfl⟩
theorem list3 {α : Type} (l : List α) (h : l.length = 3) : ∃ a b c, l = [a, b, c] := by
  match l, h with
  | [a, b, c], _ => exact ⟨a, b, c, rfl⟩
theorem bytes_eq2 (s t : ByteArray) (hs : s.size = 2) (ht : t.size = 2) : (s.toList == t.toList) = true ↔ ((s[0]'(by omega)).toNat : Int) = ((t[0]'(by omega)).toNat : Int) ∧ ((s[1]'(by omega)).toNat : Int) = ((t[1]'(by omega)).toNat : Int) := by
  rw [beq_iff_eq, ByteArray.toList_eq, ByteArray.toList_eq]
  obtain ⟨⟨l⟩⟩ := s
  obtain ⟨⟨m⟩⟩ := t
  obtain ⟨a, b, rfl⟩ := list2 l hs
  obtain ⟨c, d, rfl⟩ := list2 m ht
  show [a, b] = [c, d] ↔ (a.toNat : Int) = (c.toNat : Int) ∧ (b.toNat : Int) = (d.toNat : Int)
  simp [← UInt8.toNat_inj, Int.natCast_inj]
theorem bytes_eq3 (s t : ByteArray) (hs : s.size = 3) (ht : t.size = 3) : (s.toList == t.toList) = true ↔ ((s[0]'(by omega)).toNat : Int) = ((t[0]'(by omega)).toNat : Int) ∧ ((s[1]'(by omega)).toNat : Int) = ((t[1]'(by omega)).toNat : Int) ∧ ((s[2]'(by omega)).toNat : Int) = ((t[2]'(by omega)).toNat : Int) := by
  rw [beq_iff_eq, ByteArray.toList_eq, ByteArray.toList_eq]
  obtain ⟨⟨l⟩⟩ := s
  obtain ⟨⟨m⟩⟩ := t
  obtain ⟨a, b, u, rfl⟩ := list3 l hs
  obtain ⟨c, d, v, rfl⟩ := list3 m ht
  show [a, b, u] = [c, d, v] ↔ (a.toNat : Int) = (c.toNat : Int) ∧ (b.toNat : Int) = (d.toNat : Int) ∧ (u.toNat : Int) = (v.toNat : Int)
  simp [← UInt8.toNat_inj, Int.natCast_inj]
theorem bytes_ne (s t : ByteArray) (h : s.size ≠ t.size) : (s.toList == t.toList) = false := by
  rw [beq_eq_false_iff_ne, ByteArray.toList_eq, ByteArray.toList_eq]
  intro e
  have := congrArg List.length e
  rw [Array.length_toList, Array.length_toList] at this
  exact h this

/-- What Encode says of a valid identity: its octets, out of the texts' bytes: x is the third octet's filler or digit. -/
structure Coded (p q : ByteArray) (a0 a1 a2 b0 b1 x o0 o1 o2 : Int) : Prop where
  says : EncSays p q o0 o1 o2
  e0 : o0 = (a1 - 48) * 16 + (a0 - 48)
  e1 : o1 = x * 16 + (a2 - 48)
  e2 : o2 = (b1 - 48) * 16 + (b0 - 48)
  r0 : 48 ≤ a0 ∧ a0 ≤ 57
  r1 : 48 ≤ a1 ∧ a1 ≤ 57
  r2 : 48 ≤ a2 ∧ a2 ≤ 57
  s0 : 48 ≤ b0 ∧ b0 ≤ 57
  s1 : 48 ≤ b1 ∧ b1 ≤ 57

theorem coded2 (p q : ByteArray) (hp : Digs p 3 3) (hq : Digs q 2 3) (h2 : q.size = 2) (h3 : p.size = 3) :
    ∃ o0 o1 o2, Coded p q ((p[0]'(by omega)).toNat : Int) ((p[1]'(by omega)).toNat : Int) ((p[2]'(by omega)).toNat : Int) ((q[0]'(by omega)).toNat : Int) ((q[1]'(by omega)).toNat : Int) 15 o0 o1 o2 := by
  have r0 := hp.2.2 0 (by omega)
  have r1 := hp.2.2 1 (by omega)
  have r2 := hp.2.2 2 (by omega)
  have s0 := hq.2.2 0 (by omega)
  have s1 := hq.2.2 1 (by omega)
  exact ⟨_, _, _, enc2 p q h3 h2 _ _ _ _ _ rfl rfl rfl rfl rfl r0.1 r0.2 r1.1 r1.2 r2.1 r2.2 s0.1 s0.2 s1.1 s1.2, rfl, rfl, rfl, r0, r1, r2, s0, s1⟩
theorem coded3 (p q : ByteArray) (hp : Digs p 3 3) (hq : Digs q 2 3) (h2 : q.size = 3) (h3 : p.size = 3) :
    ∃ o0 o1 o2, Coded p q ((p[0]'(by omega)).toNat : Int) ((p[1]'(by omega)).toNat : Int) ((p[2]'(by omega)).toNat : Int) ((q[0]'(by omega)).toNat : Int) ((q[1]'(by omega)).toNat : Int) (((q[2]'(by omega)).toNat : Int) - 48) o0 o1 o2 := by
  have r0 := hp.2.2 0 (by omega)
  have r1 := hp.2.2 1 (by omega)
  have r2 := hp.2.2 2 (by omega)
  have s0 := hq.2.2 0 (by omega)
  have s1 := hq.2.2 1 (by omega)
  have s2 := hq.2.2 2 (by omega)
  exact ⟨_, _, _, enc3 p q h3 h2 _ _ _ _ _ _ rfl rfl rfl rfl rfl rfl r0.1 r0.2 r1.1 r1.2 r2.1 r2.2 s0.1 s0.2 s1.1 s1.2 s2.1 s2.2, rfl, rfl, rfl, r0, r1, r2, s0, s1⟩

theorem three_eq (x0 x1 x2 y0 y1 y2 : Int) (bp bq : Bool) (h : (x0 = y0 ∧ x1 = y1 ∧ x2 = y2) ↔ bp = true ∧ bq = true) : (x0 == y0 && (x1 == y1 && x2 == y2)) = (bp && bq) := by
  rw [Bool.eq_iff_iff]
  simpa [Bool.and_eq_true] using h

theorem valid_walk (pA qA pB qB : ByteArray) (wA : pA.size ≤ maxLen) (wB : pB.size ≤ maxLen) (uA : qA.size ≤ maxLen) (uB : qB.size ≤ maxLen) (dA : Digs pA 3 3) (eA : Digs qA 2 3) (dB : Digs pB 3 3) (eB : Digs qB 2 3) (w : World) :
    Calls Try.prog 4 #[.string pA, .string qA, .string pB, .string qB] w fun e w' => e = .returned (.bool true) ∧ Grown w w' := by
  have VA := val_2 pA qA wA uA dA true (by simpa using eA)
  have VB := val_2 pB qB wB uB dB true (by simpa using eB)
  have hpA : pA.size = 3 := by have := dA.1; have := dA.2.1; omega
  have hpB : pB.size = 3 := by have := dB.1; have := dB.2.1; omega
  have kp := bytes_eq3 pA pB hpA hpB
  have lA := eA.1
  have gA := eA.2.1
  have lB := eB.1
  have gB := eB.2.1
  by_cases hA : qA.size = 2
  · obtain ⟨x0, x1, x2, cA⟩ := coded2 pA qA dA eA hA hpA
    by_cases hB : qB.size = 2
    · obtain ⟨y0, y1, y2, cB⟩ := coded2 pB qB dB eB hB hpB
      have kq := bytes_eq2 qA qB hA hB
      refine main_walk pA qA pB qB hpA hpB gA gB x0 x1 x2 y0 y1 y2 VA VB cA.says cB.says w _ _ _ rfl rfl rfl (three_eq _ _ _ _ _ _ _ _ ?_)
      rw [kp, kq]
      obtain ⟨_, e0, e1, e2, r0, r1, r2, s0, s1⟩ := cA
      obtain ⟨_, f0, f1, f2, t0, t1, t2, v0, v1⟩ := cB
      omega
    · have hB' : qB.size = 3 := by omega
      obtain ⟨y0, y1, y2, cB⟩ := coded3 pB qB dB eB hB' hpB
      have kq := bytes_ne qA qB (by omega)
      refine main_walk pA qA pB qB hpA hpB gA gB x0 x1 x2 y0 y1 y2 VA VB cA.says cB.says w _ _ _ rfl rfl rfl (three_eq _ _ _ _ _ _ _ _ ?_)
      rw [kp, kq]
      have q2 := eB.2.2 2 (by omega)
      obtain ⟨_, e0, e1, e2, r0, r1, r2, s0, s1⟩ := cA
      obtain ⟨_, f0, f1, f2, t0, t1, t2, v0, v1⟩ := cB
      simp only [Bool.false_eq_true, and_false, iff_false]
      omega
  · have hA' : qA.size = 3 := by omega
    obtain ⟨x0, x1, x2, cA⟩ := coded3 pA qA dA eA hA' hpA
    by_cases hB : qB.size = 2
    · obtain ⟨y0, y1, y2, cB⟩ := coded2 pB qB dB eB hB hpB
      have kq := bytes_ne qA qB (by omega)
      refine main_walk pA qA pB qB hpA hpB gA gB x0 x1 x2 y0 y1 y2 VA VB cA.says cB.says w _ _ _ rfl rfl rfl (three_eq _ _ _ _ _ _ _ _ ?_)
      rw [kp, kq]
      have q2 := eA.2.2 2 (by omega)
      obtain ⟨_, e0, e1, e2, r0, r1, r2, s0, s1⟩ := cA
      obtain ⟨_, f0, f1, f2, t0, t1, t2, v0, v1⟩ := cB
      simp only [Bool.false_eq_true, and_false, iff_false]
      omega
    · have hB' : qB.size = 3 := by omega
      obtain ⟨y0, y1, y2, cB⟩ := coded3 pB qB dB eB hB' hpB
      have kq := bytes_eq3 qA qB hA' hB'
      refine main_walk pA qA pB qB hpA hpB gA gB x0 x1 x2 y0 y1 y2 VA VB cA.says cB.says w _ _ _ rfl rfl rfl (three_eq _ _ _ _ _ _ _ _ ?_)
      rw [kp, kq]
      obtain ⟨_, e0, e1, e2, r0, r1, r2, s0, s1⟩ := cA
      obtain ⟨_, f0, f1, f2, t0, t1, t2, v0, v1⟩ := cB
      omega

/-! ### one identity is not valid: the law says true at once -/
set_option maxHeartbeats 1000000 in
theorem not_valid (pA qA pB qB : ByteArray) (wA : pA.size ≤ maxLen) (wB : pB.size ≤ maxLen) (uA : qA.size ≤ maxLen) (uB : qB.size ≤ maxLen) (vA vB : Bool) (VA : ValSays pA qA vA) (VB : ValSays pB qB vB) (h : vA = false ∨ vB = false) (w : World) :
    Calls Try.prog 4 #[.string pA, .string qA, .string pB, .string qB] w fun e w' => e = .returned (.bool true) ∧ Grown w w' := by
  have Z := fun w => zz_any pA qA pB qB wA uA wB uB w
  have HZ : Hid _ := Z
  unfold maxLen at wA wB uA uB
  clear Z
  cases vA
  · clear h
    go_enter Try.func4, Try.ntmps4
    go_wp2_with fail
    refine (HZ.out _).mono ?_
    rintro e w' ⟨⟨x, rfl⟩, rfl⟩
    cases x
    · go_wp2_with fail
      go_ret
      exact ⟨rfl, Grown.refl _⟩
    · go_wp2_with (go_at_call 6; refine (VA _).mono ?_; rintro e w' ⟨rfl, rfl⟩)
      all_goals
        go_ret
        exact ⟨rfl, Grown.refl _⟩
  · obtain rfl : vB = false := by rcases h with h | h; cases h; exact h
    clear h
    go_enter Try.func4, Try.ntmps4
    go_wp2_with fail
    refine (HZ.out _).mono ?_
    rintro e w' ⟨⟨x, rfl⟩, rfl⟩
    cases x
    · go_wp2_with fail
      go_ret
      exact ⟨rfl, Grown.refl _⟩
    · by_cases s1 : 262144 < pA.size
      · go_wp2_with fail
        go_ret
        exact ⟨rfl, Grown.refl _⟩
      · by_cases s2 : 262144 < qA.size
        · go_wp2_with fail
          go_ret
          exact ⟨rfl, Grown.refl _⟩
        · by_cases s3 : 262144 < pB.size
          · go_wp2_with fail
            go_ret
            exact ⟨rfl, Grown.refl _⟩
          · by_cases s4 : 262144 < qB.size
            · go_wp2_with fail
              go_ret
              exact ⟨rfl, Grown.refl _⟩
            · go_wp2_with fail
              refine (VA _).mono ?_
              rintro e w' ⟨rfl, rfl⟩
              go_wp2_with fail
              refine (VB _).mono ?_
              rintro e w' ⟨rfl, rfl⟩
              go_wp2_with fail
              go_ret
              exact ⟨rfl, Grown.refl _⟩

theorem val_says (p q : ByteArray) (hp : p.size ≤ maxLen) (hq : q.size ≤ maxLen) : (Digs p 3 3 ∧ Digs q 2 3) ∨ ValSays p q false := by
  by_cases h : Digs p 3 3
  · by_cases k : Digs q 2 3
    · exact Or.inl ⟨h, k⟩
    · exact Or.inr (val_2 p q hp hq h false (by simpa using k))
  · exact Or.inr (val_no1 p q hp h)

theorem walk (a0 : ByteArray) (a1 : ByteArray) (a2 : ByteArray) (a3 : ByteArray) (w0 : a0.size ≤ maxLen) (w1 : a1.size ≤ maxLen) (w2 : a2.size ≤ maxLen) (w3 : a3.size ≤ maxLen) (w : World) :
    Calls Try.prog 4 #[.string a0, .string a1, .string a2, .string a3] w fun e w' => e = .returned (.bool true) ∧ Grown w w' := by
  rcases val_says a0 a1 w0 w1 with ⟨dA, eA⟩ | VA
  · rcases val_says a2 a3 w2 w3 with ⟨dB, eB⟩ | VB
    · exact valid_walk a0 a1 a2 a3 w0 w2 w1 w3 dA eA dB eB w
    · exact not_valid a0 a1 a2 a3 w0 w2 w1 w3 true false (val_2 a0 a1 w0 w1 dA true (by simpa using eA)) VB (Or.inr rfl) w
  · rcases val_says a2 a3 w2 w3 with ⟨dB, eB⟩ | VB
    · exact not_valid a0 a1 a2 a3 w0 w2 w1 w3 false true VA (val_2 a2 a3 w2 w3 dB true (by simpa using eB)) (Or.inl rfl) w
    · exact not_valid a0 a1 a2 a3 w0 w2 w1 w3 false false VA VB (Or.inl rfl) w

/-! ### THE ROW's STEP: WRITTEN OUT: LEAVE IT -/
set_option maxRecDepth 100000 in
theorem lifted (os : Os) (started : os.Started) (H : Type) (enc : TypeId × Value → H) :
    ReturnsInHanded {} Try.checked os 4 .any (Rows.fnEncodeIsInjectiveSpec.pre6 enc Try.prog Try.f4 Rows.fnEncodeIsInjectiveRow.domain false) (Rows.fnEncodeIsInjectiveSpec.post enc Try.prog Try.f4 false true false false) := by
  refine returnsInHanded_of_change (C := Try.checked) own started (by kernel_rfl) Try.func4
    (ChangeSpec.witness6 (enc := enc) (C := Try.checked) false ⟨#[], #[.string ByteArray.empty, .string ByteArray.empty, .string ByteArray.empty, .string ByteArray.empty], []⟩ 8 (by kernel_rfl) (by kernel_rfl) (by kernel_rfl) (by kernel_rfl)) ?_
  intro W base args ds gs before hval0 hW hcnd _
  have hval : ∀ (j : Nat) t v, Try.f4.params[j]? = some t → args[j]? = some v → Value.okWide Try.prog W .any base t v := hval0
  have hW' := hW
  obtain ⟨p, q, hA0, hV, rfl, hfz, hnd⟩ := hW
  have hA : DataW.TrodAll enc Try.prog W 0 (fun _ => true) true Try.f4.params.toList args.toList ds p := hA0
  rw [Try.params4] at hA hval
  obtain ⟨v0, vs0, d0, ds0, p0, q0, hargs, rfl, rfl, h0, r0⟩ := trodAll_cons hA
  obtain ⟨v1, vs1, d1, ds1, p1, q1, rfl, rfl, rfl, h1, r1⟩ := trodAll_cons r0
  obtain ⟨v2, vs2, d2, ds2, p2, q2, rfl, rfl, rfl, h2, r2⟩ := trodAll_cons r1
  obtain ⟨v3, vs3, d3, ds3, p3, q3, rfl, rfl, rfl, h3, r3⟩ := trodAll_cons r2
  obtain ⟨rfl, rfl, rfl⟩ := trodAll_nil r3
  obtain rfl : args = #[v0, v1, v2, v3] := by cases args; simp_all
  obtain ⟨rfl, rfl⟩ := trodVars_none hV
  obtain ⟨a0, rfl, rfl, rfl, w0⟩ := open_string Try.underlying9 (hval 0 9 v0 rfl rfl) h0
  obtain ⟨a1, rfl, rfl, rfl, w1⟩ := open_string Try.underlying9 (hval 1 9 v1 rfl rfl) h1
  obtain ⟨a2, rfl, rfl, rfl, w2⟩ := open_string Try.underlying9 (hval 2 9 v2 rfl rfl) h2
  obtain ⟨a3, rfl, rfl, rfl, w3⟩ := open_string Try.underlying9 (hval 3 9 v3 rfl rfl) h3
  clear hA0 hval0
  simp only [List.append_nil] at hW'
  refine (walk a0 a1 a2 a3 w0 w1 w2 w3 W).mono fun e W' ⟨he, hg⟩ => ?_
  subst he
  exact ⟨_, rfl, post_of_same (pa := []) (pv := []) hW' (fun _ _ _ => (trodAll_cons_mk (shut_bool Try.underlying4 _) trodAll_mk0)) (fun sp _ => (trodAll_cons_mk (shut_string Try.underlying9 w0) (trodAll_cons_mk (shut_string Try.underlying9 w1) (trodAll_cons_mk (shut_string Try.underlying9 w2) (trodAll_cons_mk (shut_string Try.underlying9 w3) trodAll_mk0))))) (fun _ _ => rfl) rfl
    (hg.frame _) hg.2.1 (ok_one (by kernel_rfl) rfl (okWide_bool_mk Try.underlying4 _))⟩

theorem over : Rows.fnEncodeIsInjectiveRow.holds Try.pinned (OpenSpec.ofChange Rows.fnEncodeIsInjectiveSpec) :=
  OpenClaim.holds_of_wide 4 Try.f4 rfl rfl rfl rfl rfl rfl rfl ⟨rfl, rfl, rfl, rfl, rfl⟩ rfl rfl rfl rfl rfl (by kernel_rfl) Try.func4 (by kernel_rfl)
    (of_decide_eq_true (by kernel_rfl)) (by unfold Func.isWrapper; first | (rw [if_pos (by decide +kernel)]; kernel_rfl) | (rw [if_neg (by decide +kernel)]; exact ⟨rfl, rfl⟩))
    (fun os started H enc _ => lifted os started H enc)

/-- ████ THE STATEMENT ████ -/
theorem proved : Rows.FnEncodeIsInjectiveSaid :=
  over
#print axioms proved
end Go.Proofs.Qxb6603977a.fnEncodeIsInjective
