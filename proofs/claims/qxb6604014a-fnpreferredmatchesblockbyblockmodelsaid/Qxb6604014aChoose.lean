/-
  THE WALKS OF choose: slices.IndexFunc (43), slices.ContainsFunc (37) at []int and a closure of one captured variable; choose$1 (39), offered (40), choose (31), ZZChoose (21), b1CoverOf (24). Seat b6604014a.
-/
import Derived.Test.Qxb6604014aChooseWalks
namespace Go.Proofs.Qxb6604014a
open Go.RowKit
set_option linter.unusedVariables false

theorem enter39 (x y : Value) (w : World) : (callFunc 39 #[x, y]).run Try.prog w = .ok (.enter 39 #[x, y]) w := by kernel_rfl
theorem enter33 (x y : Value) (w : World) : (callFunc 33 #[x, y]).run Try.prog w = .ok (.enter 33 #[x, y]) w := by kernel_rfl

set_option maxHeartbeats 400000 in
theorem index43 (a : Option Addr) (n c : Nat) (z : Nat → Int) (fid : FuncId) (cv : Value) (p : Nat → Bool) (w : World) (hn : n ≤ 65537) (h : Rd w a n (iv .i64 z))
    (hent : ∀ (x y : Value) (w : World), (callFunc fid #[x, y]).run Try.prog w = .ok (.enter fid #[x, y]) w)
    (hcl : ∀ j, j < n → ∀ w1, Below w.heap.size w w1 → Calls Try.prog fid #[.int .i64 (z j), cv] w1 fun e w2 => e = .returned (.bool (p j)) ∧ Below w1.heap.size w1 w2) :
    Calls Try.prog 43 #[.slice a n c, .func (Fn.func fid) #[] #[cv]] w fun e w' => ((∃ r : Nat, e = .returned (.int .i64 r) ∧ r < n ∧ p r = true) ∨ (e = .returned (.int .i64 (-1)) ∧ ∀ j, j < n → p j = false)) ∧ Below w.heap.size w w' := by
  have H := hide (h)
  clear h
  have HC := hide (hcl)
  clear hcl
  go_enter Try.func43, Try.ntmps43
  go_wp2
  go_loopw [8] (fun i wr => ∃ k : Nat, k ≤ n ∧ i = .int .i64 k ∧ Hid (∀ j, j < k → p j = false) ∧ Below w.heap.size w wr) (fun i _ => n - (intOf i).toNat)
  case atStart => exact ⟨0, Nat.zero_le _, rfl, fun j hj => absurd hj (Nat.not_lt_zero j), Below.refl _ _⟩
  case round =>
    obtain ⟨k, hk, rfl, HK, hbel⟩ := hrel
    have HB := hide (hbel)
    by_cases hlt : k < n
    · obtain ⟨b, off, rfl, hb, hc⟩ := H.out k hlt
      have hcell : wr.cell? ⟨b, off + k, none⟩ = some (.int .i64 (z k)) := by rw [hbel.cell hb]; exact hc
      clear hc hbel
      cases hp : p k
      · have HK' : Hid (∀ j, j < k + 1 → p j = false) := by
          intro j hj
          by_cases e : j = k
          · subst e; exact hp
          · exact HK.out j (by omega)
        go_wp2_with fail
        refine (HC.out k hlt _ HB.out).mono ?_
        rintro e w2 ⟨rfl, hb2⟩
        have HB2 := hide (hb2)
        clear hb2
        go_wp2_with fail
        go_roundw
        case rel => exact ⟨k + 1, by omega, by go_num, HK', HB.out.trans (HB2.out.mono HB.out.size)⟩
        case measure => simp [intOf]; omega
      · have HP := hide (hp)
        go_wp2_with fail
        refine (HC.out k hlt _ HB.out).mono ?_
        rintro e w2 ⟨rfl, hb2⟩
        have HB2 := hide (hb2)
        clear hb2
        go_wp2_with fail
        go_ret
        exact ⟨Or.inl ⟨k, rfl, hlt, HP.out⟩, HB.out.trans (HB2.out.mono HB.out.size)⟩
    · obtain rfl : k = n := by omega
      clear hbel
      go_wp2_with fail
      go_ret
      exact ⟨Or.inr ⟨rfl, HK.out⟩, HB.out⟩

/-- Some element meets the predicate. -/
def anyB (n : Nat) (p : Nat → Bool) : Bool := (List.range n).any p
theorem anyB_true {n : Nat} {p : Nat → Bool} {r : Nat} (h : r < n) (hp : p r = true) : anyB n p = true := List.any_eq_true.2 ⟨r, List.mem_range.2 h, hp⟩
theorem anyB_false {n : Nat} {p : Nat → Bool} (h : ∀ j, j < n → p j = false) : anyB n p = false := by
  unfold anyB
  rw [List.any_eq_false]
  intro x hx
  rw [h x (List.mem_range.1 hx)]
  exact Bool.false_ne_true

set_option maxHeartbeats 400000 in
theorem contains37 (a : Option Addr) (n c : Nat) (z : Nat → Int) (fid : FuncId) (cv : Value) (p : Nat → Bool) (w : World) (hn : n ≤ 65537) (h : Rd w a n (iv .i64 z))
    (hent : ∀ (x y : Value) (w : World), (callFunc fid #[x, y]).run Try.prog w = .ok (.enter fid #[x, y]) w)
    (hcl : ∀ j, j < n → ∀ w1, Below w.heap.size w w1 → Calls Try.prog fid #[.int .i64 (z j), cv] w1 fun e w2 => e = .returned (.bool (p j)) ∧ Below w1.heap.size w1 w2) :
    Calls Try.prog 37 #[.slice a n c, .func (Fn.func fid) #[] #[cv]] w fun e w' => e = .returned (.bool (anyB n p)) ∧ Below w.heap.size w w' := by
  have H := index43 a n c z fid cv p w hn h hent hcl
  have HH := hide (H)
  clear H h hcl hent
  go_enter Try.func37, Try.ntmps37
  go_wp2_with fail
  refine HH.out.mono ?_
  rintro e w' ⟨⟨r, rfl, hr, hp⟩ | ⟨rfl, hp⟩, hb⟩
  · have HA := hide (anyB_true hr hp)
    clear hp
    have HB := hide (hb)
    clear hb
    go_wp2_with fail
    go_ret
    exact ⟨by rw [HA.out]; rfl, HB.out⟩
  · have HA := hide (anyB_false hp)
    clear hp
    have HB := hide (hb)
    clear hb
    go_wp2_with fail
    go_ret
    exact ⟨by rw [HA.out]; rfl, HB.out⟩

set_option maxHeartbeats 400000 in
theorem clo39 (b : Nat) (a : Option Addr) (n c : Nat) (z : Nat → Int) (x : Int) (w : World) (hcell : w.cell? ⟨b, 0, none⟩ = some (.slice a n c)) (h : Rd w a n (iv .u8 z)) (x0 : 0 ≤ x) (x1 : x < n) :
   Calls Try.prog 39 #[.int .i64 x, .pointer (some ⟨b, 0, none⟩)] w fun e w' => e = .returned (.bool (z x.toNat == 3)) ∧ Below w.heap.size w w' := by
  obtain ⟨b1, off, rfl, hb, hc⟩ := h x.toNat (by omega)
  clear h
  unfold iv at hc
  go_enter Try.func39, Try.ntmps39
  go_wp2
  go_ret
  exact ⟨rfl, Below.refl _ _⟩

/-- What the tasks offer between them: the first n of the flags q, joined. -/
def orTo (q : Nat → Int) : Nat → Int
  | 0 => 0
  | n + 1 => bits .or .u8 (orTo q n) (q n)

set_option maxHeartbeats 400000 in
theorem offered40 (a : Option Addr) (n c : Nat) (z : Nat → Int) (a' : Option Addr) (m d : Nat) (y : Nat → Int) (w : World) (hn : n ≤ 65537) (hm : m ≤ 65536) (h : Rd w a n (iv .i64 z)) (h' : Rd w a' m (iv .u8 y)) (hr : InRange n z m) :
   Calls Try.prog 40 #[.slice a n c, .slice a' m d] w fun e w' => e = .returned (.int .u8 (orTo (fun j => y (z j).toNat) n)) ∧ w = w' := by
  have H := hide (h)
  have H' := hide (h')
  have HR := hide (hr)
  clear h h' hr
  go_enter Try.func40, Try.ntmps40
  go_wp2
  go_loop [5, 10] (fun s i => ∃ k : Nat, k ≤ n ∧ i = .int .i64 k ∧ s = .int .u8 (orTo (fun j => y (z j).toNat) k)) (fun _ i => n - (intOf i).toNat)
  case atStart => exact ⟨0, Nat.zero_le _, rfl, rfl⟩
  case round =>
    obtain ⟨k, hk, rfl, rfl⟩ := hrel
    by_cases hlt : k < n
    · obtain ⟨b, off, rfl, hb, hc⟩ := H.out k hlt
      obtain ⟨x0, x1⟩ := HR.out k hlt
      obtain ⟨b', off', rfl, hb', hc'⟩ := H'.out (z k).toNat (by omega)
      unfold iv at hc hc'
      go_wp2
      go_round
      case rel => exact ⟨k + 1, by omega, by go_num, rfl⟩
      case measure => simp [intOf]; omega
    · obtain rfl : k = n := by omega
      go_wp2
      go_ret
      exact ⟨rfl, rfl⟩

/-- The choice table over the flags of n tasks. -/
def tableV (o : Int) : Int := if o = 3 then 6 else if o = 1 then 4 else if o = 2 then 3 else 7
def chooseV (n : Nat) (q : Nat → Int) : Int := if anyB n (fun j => q j == 3) = true then 5 else tableV (orTo q n)

theorem chooseV_any {n : Nat} {q : Nat → Int} (h : anyB n (fun j => q j == 3) = true) : chooseV n q = 5 := by unfold chooseV; rw [if_pos h]
theorem chooseV_or {n : Nat} {q : Nat → Int} (h : anyB n (fun j => q j == 3) = false) : chooseV n q = tableV (orTo q n) := by unfold chooseV; rw [if_neg (by rw [h]; exact Bool.false_ne_true)]

set_option maxHeartbeats 1000000 in
theorem choose31 (a : Option Addr) (n c : Nat) (z : Nat → Int) (a' : Option Addr) (m d : Nat) (y : Nat → Int) (w : World) (hn : n ≤ 65537) (hm : m ≤ 65536) (h : Rd w a n (iv .i64 z)) (h' : Rd w a' m (iv .u8 y)) (hr : InRange n z m) :
   Calls Try.prog 31 #[.slice a n c, .slice a' m d] w fun e w' => e = .returned (.int .u8 (chooseV n (fun j => y (z j).toNat))) ∧ Below w.heap.size w w' := by
  have b0 : Below w.heap.size w (w.alloc (.cells #[.slice a' m d] 43)) := (Below.refl _ _).alloc (Nat.le_refl _) _
  have C := contains37 a n c z 39 (.pointer (some ⟨w.heap.size, 0, none⟩)) (fun j => y (z j).toNat == 3) (w.alloc (.cells #[.slice a' m d] 43)) hn (h.below b0) enter39
    (fun j hj w1 hb1 => clo39 w.heap.size a' m d y (z j) w1 (by rw [hb1.cell (by simp)]; simp [go_sem]) ((h'.below b0).below hb1) (hr j hj).1 (hr j hj).2)
  have HO := hide (fun w1 (hb1 : Below w.heap.size w w1) => offered40 a n c z a' m d y w1 hn hm (h.below hb1) (h'.below hb1) hr)
  clear h h' hr
  have B0 := hide b0
  clear b0
  obtain ⟨o, ho⟩ : ∃ o, orTo (fun j => y (z j).toNat) n = o := ⟨_, rfl⟩
  rw [ho] at HO
  cases hany : anyB n (fun j => y (z j).toNat == 3) with
  | true =>
    rw [hany] at C
    have HC := hide C
    have HV := hide (chooseV_any (n := n) (q := fun j => y (z j).toNat) hany)
    clear ho hany C
    go_enter Try.func31, Try.ntmps31
    go_wp2_with fail
    refine HC.out.mono ?_
    rintro e w1 ⟨rfl, hb1⟩
    have HB1 := hide hb1
    clear hb1
    go_wp2_with fail
    go_ret
    exact ⟨by rw [HV.out]; rfl, B0.out.trans (HB1.out.mono B0.out.size)⟩
  | false =>
    rw [hany] at C
    have HC := hide C
    have hv := chooseV_or (n := n) (q := fun j => y (z j).toNat) hany
    rw [ho] at hv
    clear ho hany C
    unfold tableV at hv
    by_cases h3 : o = 3
    · rw [if_pos h3] at hv
      have HV := hide hv
      clear hv
      subst h3
      go_enter Try.func31, Try.ntmps31
      go_wp2_with fail
      refine HC.out.mono ?_
      rintro e w1 ⟨rfl, hb1⟩
      have hcell : w1.cell? ⟨w.heap.size, 0, none⟩ = some (.slice a' m d) := by rw [hb1.cell (by simp)]; simp [go_sem]
      have HB1 := hide (B0.out.trans (hb1.mono B0.out.size))
      clear hb1
      go_wp2_with fail
      refine (HO.out _ HB1.out).mono ?_
      rintro e w2 ⟨rfl, rfl⟩
      go_wp2_with fail
      go_ret
      exact ⟨by rw [HV.out]; rfl, HB1.out⟩
    · rw [if_neg h3] at hv
      have e3 : (o == 3) = false := by simpa using h3
      by_cases h1 : o = 1
      · rw [if_pos h1] at hv
        have HV := hide hv
        clear hv e3 h3
        subst h1
        go_enter Try.func31, Try.ntmps31
        go_wp2_with fail
        refine HC.out.mono ?_
        rintro e w1 ⟨rfl, hb1⟩
        have hcell : w1.cell? ⟨w.heap.size, 0, none⟩ = some (.slice a' m d) := by rw [hb1.cell (by simp)]; simp [go_sem]
        have HB1 := hide (B0.out.trans (hb1.mono B0.out.size))
        clear hb1
        go_wp2_with fail
        refine (HO.out _ HB1.out).mono ?_
        rintro e w2 ⟨rfl, rfl⟩
        go_wp2_with fail
        go_ret
        exact ⟨by rw [HV.out]; rfl, HB1.out⟩
      · rw [if_neg h1] at hv
        have e1 : (o == 1) = false := by simpa using h1
        by_cases h2 : o = 2
        · rw [if_pos h2] at hv
          have HV := hide hv
          clear hv e3 h3 e1 h1
          subst h2
          go_enter Try.func31, Try.ntmps31
          go_wp2_with fail
          refine HC.out.mono ?_
          rintro e w1 ⟨rfl, hb1⟩
          have hcell : w1.cell? ⟨w.heap.size, 0, none⟩ = some (.slice a' m d) := by rw [hb1.cell (by simp)]; simp [go_sem]
          have HB1 := hide (B0.out.trans (hb1.mono B0.out.size))
          clear hb1
          go_wp2_with fail
          refine (HO.out _ HB1.out).mono ?_
          rintro e w2 ⟨rfl, rfl⟩
          go_wp2_with fail
          go_ret
          exact ⟨by rw [HV.out]; rfl, HB1.out⟩
        · rw [if_neg h2] at hv
          have e2 : (o == 2) = false := by simpa using h2
          have HV := hide hv
          clear hv h1 h2 h3
          go_enter Try.func31, Try.ntmps31
          go_wp2_with fail
          refine HC.out.mono ?_
          rintro e w1 ⟨rfl, hb1⟩
          have hcell : w1.cell? ⟨w.heap.size, 0, none⟩ = some (.slice a' m d) := by rw [hb1.cell (by simp)]; simp [go_sem]
          have HB1 := hide (B0.out.trans (hb1.mono B0.out.size))
          clear hb1
          go_wp2_with fail
          refine (HO.out _ HB1.out).mono ?_
          rintro e w2 ⟨rfl, rfl⟩
          go_wp2_with fail
          go_ret
          exact ⟨by rw [HV.out]; rfl, HB1.out⟩

theorem zzchoose21 (a : Option Addr) (n c : Nat) (z : Nat → Int) (a' : Option Addr) (m d : Nat) (y : Nat → Int) (w : World) (hn : n ≤ 65537) (hm : m ≤ 65536) (h : Rd w a n (iv .i64 z)) (h' : Rd w a' m (iv .u8 y)) (hr : InRange n z m) :
   Calls Try.prog 21 #[.slice a n c, .slice a' m d] w fun e w' => e = .returned (.int .u8 (chooseV n (fun j => y (z j).toNat))) ∧ Below w.heap.size w w' := by
  have C := hide (choose31 a n c z a' m d y w hn hm h h' hr)
  clear h h' hr
  go_enter Try.func21, Try.ntmps21
  go_wp2_with fail
  refine C.out.mono ?_
  rintro e w1 ⟨rfl, hb1⟩
  have HB1 := hide hb1
  clear hb1
  go_wp2_with fail
  go_ret
  exact ⟨rfl, HB1.out⟩

/-- b1CoverOf at the five values that choose answers. -/
def coverV (p : Int) : Int := if p = 7 then 0 else if p = 4 then 1 else if p = 3 then 2 else if p = 6 then 3 else 7
theorem cover24 (p : Int) (hp : p = 7 ∨ p = 4 ∨ p = 3 ∨ p = 6 ∨ p = 5) (w : World) :
    Calls Try.prog 24 #[.int .u8 p] w fun e w' => e = .returned (.int .i64 (coverV p)) ∧ w = w' := by
  rcases hp with rfl | rfl | rfl | rfl | rfl
  all_goals
    go_enter Try.func24, Try.ntmps24
    go_wp2
    go_ret
    exact ⟨rfl, rfl⟩
end Go.Proofs.Qxb6604014a
