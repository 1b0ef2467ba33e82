/-
  THE WALKS OF FnPreferredMatchesBlockByBlockModel's readers: zzBytes (6), b1PreferredTooBig (7), b1PreferredIdsInRange (8), b1LastBlockOf (27). Seat b6604014a.
-/
import Derived.Test.Qxb6604014aChooseWalks
namespace Go.Proofs.Qxb6604014a
open Go.RowKit
set_option linter.unusedVariables false

/-- A slice of n elements of two cells each. -/
def Rd2 (w : World) (a : Option Addr) (n : Nat) (f g : Nat → Value) : Prop :=
  ∀ i, i < n → ∃ b off, a = some ⟨b, off, none⟩ ∧ b < w.heap.size ∧ w.cell? ⟨b, off + i * 2, none⟩ = some (f i) ∧ w.cell? ⟨b, off + i * 2 + 1, none⟩ = some (g i)
theorem Rd2.below {w w' : World} {a : Option Addr} {n : Nat} {f g : Nat → Value} (h : Rd2 w a n f g) (hb : Below w.heap.size w w') : Rd2 w' a n f g := by
  intro i hi
  obtain ⟨b, off, ha, hlt, hc, hd⟩ := h i hi
  exact ⟨b, off, ha, Nat.lt_of_lt_of_le hlt hb.size, by rw [hb.cell hlt]; exact hc, by rw [hb.cell hlt]; exact hd⟩

/-- A slice of N rows of integers: row i has L i of them, c i 0, c i 1, .. -/
def Bl (w : World) (a : Option Addr) (N : Nat) (L : Nat → Nat) (c : Nat → Nat → Int) : Prop :=
  ∃ (ad : Nat → Option Addr) (cp : Nat → Nat), Rd w a N (fun i => .slice (ad i) (L i) (cp i)) ∧ ∀ i, i < N → Rd w (ad i) (L i) (iv .i64 (c i))
theorem Bl.below {w w' : World} {a : Option Addr} {N : Nat} {L : Nat → Nat} {c : Nat → Nat → Int} (h : Bl w a N L c) (hb : Below w.heap.size w w') : Bl w' a N L c := by
  obtain ⟨ad, cp, h1, h2⟩ := h
  exact ⟨ad, cp, h1.below hb, fun i hi => (h2 i hi).below hb⟩

/-- The rows' lengths added up. -/
def sumL (L : Nat → Nat) : Nat → Nat
  | 0 => 0
  | n + 1 => sumL L n + L n
theorem sumL_mono (L : Nat → Nat) {k n : Nat} (h : k ≤ n) : sumL L k ≤ sumL L n := by
  induction n with
  | zero => obtain rfl : k = 0 := by omega
            exact Nat.le_refl _
  | succ n ih =>
    by_cases e : k = n + 1
    · subst e; exact Nat.le_refl _
    · have := ih (by omega)
      show sumL L k ≤ sumL L n + L n
      omega
theorem le_sumL (L : Nat → Nat) {k n : Nat} (h : k < n) : L k ≤ sumL L n := by
  have := sumL_mono L (show k + 1 ≤ n by omega)
  have e : sumL L (k + 1) = sumL L k + L k := rfl
  omega

set_option maxHeartbeats 1000000 in
theorem zz6 (a b d : Option Addr) (N c P e1 S e2 : Nat) (L : Nat → Nat) (ad : Nat → Option Addr) (cp : Nat → Nat) (hN : N ≤ maxLen) (hP : P ≤ maxLen) (hS : S ≤ maxLen) (hL : Hid (∀ i, i < N → L i ≤ maxLen)) (w : World) (h : Rd w a N (fun i => .slice (ad i) (L i) (cp i))) :
    Calls Try.prog 6 #[.slice a N c, .slice b P e1, .slice d S e2] w fun e w' => (e = .returned (.bool false) ∨ e = .returned (.bool true) ∧ ∀ i, i < N → L i ≤ 1048576) ∧ w = w' := by
  have H := hide h
  clear h
  unfold maxLen at hN hP hS
  by_cases hN1 : 1048576 < N
  · go_enter Try.func6, Try.ntmps6
    go_wp2
    go_ret
    exact ⟨Or.inl rfl, rfl⟩
  · have d1 : decide ((1048576 : Int) < N) = false := by simp; omega
    go_enter Try.func6, Try.ntmps6
    go_wp2
    go_loop [7, 8] (fun z i => ∃ (k : Nat) (q : Int), k ≤ N ∧ i = .int .i64 k ∧ z = .int .i64 q ∧ 0 ≤ q ∧ q ≤ 1048576 ∧ Hid (∀ i, i < k → L i ≤ 1048576)) (fun _ i => N - (intOf i).toNat)
    case atStart => exact ⟨0, N, Nat.zero_le _, rfl, rfl, by omega, by omega, fun i hi => absurd hi (Nat.not_lt_zero i)⟩
    case round =>
      obtain ⟨k, q, hk, rfl, rfl, hq0, hq1, HK⟩ := hrel
      by_cases hlt : k < N
      · obtain ⟨b1, off, rfl, hb, hc⟩ := H.out k hlt
        have hLk := hL.out k hlt
        unfold maxLen at hLk
        by_cases h1 : 1048576 < L k
        · go_wp2
          go_ret
          exact ⟨Or.inl rfl, rfl⟩
        · have HK' : Hid (∀ i, i < k + 1 → L i ≤ 1048576) := by
            intro i hi
            by_cases e : i = k
            · subst e; omega
            · exact HK.out i (by omega)
          by_cases h2 : 1048576 < q + L k
          · go_wp2
            go_ret
            exact ⟨Or.inl rfl, rfl⟩
          · go_wp2
            go_round
            case rel => exact ⟨k + 1, q + L k, by omega, by go_num, rfl, by omega, by omega, HK'⟩
            case measure => simp [intOf]; omega
      · obtain rfl : k = N := by omega
        by_cases p1 : 1048576 < P
        · go_wp2
          go_ret
          exact ⟨Or.inl rfl, rfl⟩
        · by_cases p2 : 1048576 < q + P
          · go_wp2
            go_ret
            exact ⟨Or.inl rfl, rfl⟩
          · by_cases s1 : 1048576 < S
            · go_wp2
              go_ret
              exact ⟨Or.inl rfl, rfl⟩
            · by_cases s2 : 1048576 < q + P + S
              · go_wp2
                go_ret
                exact ⟨Or.inl rfl, rfl⟩
              · go_wp2
                go_ret
                exact ⟨Or.inr ⟨rfl, HK.out⟩, rfl⟩

/-- The law's own bounds. -/
structure Small (N P S : Nat) (L : Nat → Nat) : Prop where
  n : N ≤ 4096
  p : P ≤ 4096
  s : S ≤ 65536
  t : sumL L N ≤ 4096

set_option maxHeartbeats 1000000 in
theorem big7 (a b d : Option Addr) (N c P e1 S e2 : Nat) (L : Nat → Nat) (ad : Nat → Option Addr) (cp : Nat → Nat) (hN : N ≤ maxLen) (hP : P ≤ maxLen) (hS : S ≤ maxLen) (hL : Hid (∀ i, i < N → L i ≤ 1048576)) (w : World) (h : Rd w a N (fun i => .slice (ad i) (L i) (cp i))) :
    Calls Try.prog 7 #[.slice a N c, .slice b P e1, .slice d S e2] w fun e w' => (e = .returned (.bool true) ∨ e = .returned (.bool false) ∧ Small N P S L) ∧ w = w' := by
  have H := hide h
  clear h
  unfold maxLen at hN hP hS
  by_cases hN1 : 4096 < N
  · go_enter Try.func7, Try.ntmps7
    go_wp2
    go_ret
    exact ⟨Or.inl rfl, rfl⟩
  · by_cases hP1 : 4096 < P
    · go_enter Try.func7, Try.ntmps7
      go_wp2
      go_ret
      exact ⟨Or.inl rfl, rfl⟩
    · by_cases hS1 : 65536 < S
      · go_enter Try.func7, Try.ntmps7
        go_wp2
        go_ret
        exact ⟨Or.inl rfl, rfl⟩
      · have d1 : decide ((4096 : Int) < N) = false := by simp; omega
        have d2 : decide ((4096 : Int) < P) = false := by simp; omega
        have d3 : decide ((65536 : Int) < S) = false := by simp; omega
        go_enter Try.func7, Try.ntmps7
        go_wp2
        go_loop [7, 8] (fun z i => ∃ (k : Nat) (q : Nat), k ≤ N ∧ i = .int .i64 k ∧ z = .int .i64 q ∧ q ≤ 4096 ∧ Hid (q = sumL L k)) (fun _ i => N - (intOf i).toNat)
        case atStart => exact ⟨0, 0, Nat.zero_le _, rfl, rfl, by omega, rfl⟩
        case round =>
          obtain ⟨k, q, hk, rfl, rfl, hq1, HQ⟩ := hrel
          by_cases hlt : k < N
          · obtain ⟨b1, off, rfl, hb, hc⟩ := H.out k hlt
            have hLk := hL.out k hlt
            by_cases h2 : 4096 < (q : Int) + L k
            · go_wp2
              go_ret
              exact ⟨Or.inl rfl, rfl⟩
            · go_wp2
              go_round
              case rel => exact ⟨k + 1, q + L k, by omega, by go_num, by go_num, by omega, by rw [HQ.out]; rfl⟩
              case measure => simp [intOf]; omega
          · obtain rfl : k = N := by omega
            have hSm : Hid (Small k P S L) := ⟨by omega, by omega, by omega, by have := HQ.out; omega⟩
            have d4 : decide ((1048576 : Int) < 24 * (k : Int) + 8 * (q : Int) + 16 * (P : Int) + 2 * (S : Int)) = false := by simp; omega
            go_wp2
            go_ret
            exact ⟨Or.inr ⟨rfl, hSm.out⟩, rfl⟩

/-- Every id of the blocks and of the pairs indexes S services. -/
def IdsOk (N : Nat) (L : Nat → Nat) (c : Nat → Nat → Int) (P : Nat) (f g : Nat → Int) (S : Nat) : Prop :=
  (∀ i, i < N → InRange (L i) (c i) S) ∧ InRange P f S ∧ InRange P g S

set_option maxHeartbeats 1000000 in
theorem ids8 (a b : Option Addr) (N cN P cP S : Nat) (L : Nat → Nat) (c : Nat → Nat → Int) (f g : Nat → Int) (hN : N ≤ 4096) (hP : P ≤ 4096) (hS : S ≤ 65536) (hL : Hid (∀ i, i < N → L i ≤ 4096)) (w : World) (h : Bl w a N L c) (h2 : Rd2 w b P (iv .i64 f) (iv .i64 g)) :
    Calls Try.prog 8 #[.slice a N cN, .slice b P cP, .int .i64 S] w fun e w' => (e = .returned (.bool false) ∨ e = .returned (.bool true) ∧ IdsOk N L c P f g S) ∧ w = w' := by
  obtain ⟨ad, cp, h, hr⟩ := h
  have H := hide h
  have HR := hide hr
  have H2 := hide h2
  clear h hr h2
  go_enter Try.func8, Try.ntmps8
  go_wp2
  go_loop [7, 8, 9] (fun i _ _ => ∃ k : Nat, k ≤ N ∧ i = .int .i64 k ∧ Hid (∀ i, i < k → InRange (L i) (c i) S)) (fun i _ _ => N - (intOf i).toNat)
  case atStart => exact ⟨0, Nat.zero_le _, rfl, fun i hi => absurd hi (Nat.not_lt_zero i)⟩
  case round =>
    obtain ⟨k, hk, rfl, HK⟩ := hrel
    by_cases hlt : k < N
    · obtain ⟨b1, off, rfl, hb, hc⟩ := H.out k hlt
      have hLk := hL.out k hlt
      have dk : decide ((k : Int) < N) = true := by simp; omega
      go_wp2
      go_loop [8, 9] (fun j _ => ∃ m : Nat, m ≤ L k ∧ j = .int .i64 m ∧ Hid (InRange m (c k) S)) (fun j _ => L k - (intOf j).toNat)
      case atStart => exact ⟨0, Nat.zero_le _, rfl, fun i hi => absurd hi (Nat.not_lt_zero i)⟩
      case round =>
        obtain ⟨m, hm, rfl, HM⟩ := hrel
        by_cases hlt2 : m < L k
        · obtain ⟨b3, off3, e3, hb3, hc3⟩ := HR.out k hlt m hlt2
          rw [e3] at hc
          obtain ⟨x, hx⟩ : ∃ x, c k m = x := ⟨_, rfl⟩
          have hc3' : w.cell? ⟨b3, off3 + m, none⟩ = some (.int .i64 x) := by rw [← hx]; exact hc3
          have HX := hide hx
          clear hc3 hx e3
          by_cases hd : 0 ≤ x ∧ x < S
          · have HM' : Hid (InRange (m + 1) (c k) S) := by
              intro j hj
              by_cases e : j = m
              · subst e; rw [HX.out]; exact hd
              · exact HM.out j (by omega)
            obtain ⟨hd1, hd2⟩ := hd
            go_wp2
            go_round
            case rel => exact ⟨m + 1, by omega, by go_num, HM'⟩
            case measure => simp [intOf]; omega
          · by_cases h0 : x < 0
            · clear hd
              go_wp2
              go_ret
              exact ⟨Or.inl rfl, rfl⟩
            · have h1 : (S : Int) ≤ x := by omega
              have h2 : 0 ≤ x := by omega
              clear hd h0
              go_wp2
              go_ret
              exact ⟨Or.inl rfl, rfl⟩
        · obtain rfl : m = L k := by omega
          have HK' : Hid (∀ i, i < k + 1 → InRange (L i) (c i) S) := by
            intro i hi
            by_cases e : i = k
            · subst e; exact HM.out
            · exact HK.out i (by omega)
          go_wp2
          go_round
          case rel => exact ⟨k + 1, by omega, by go_num, HK'⟩
          case measure => simp [intOf]; omega
    · obtain rfl : k = N := by omega
      have dk : decide ((k : Int) < k) = false := by simp
      go_wp2
      go_loop [10, 11, 12] (fun i _ _ => ∃ q : Nat, q ≤ P ∧ i = .int .i64 q ∧ Hid (InRange q f S ∧ InRange q g S)) (fun i _ _ => P - (intOf i).toNat)
      case atStart => exact ⟨0, Nat.zero_le _, rfl, fun i hi => absurd hi (Nat.not_lt_zero i), fun i hi => absurd hi (Nat.not_lt_zero i)⟩
      case round =>
        obtain ⟨q, hq, rfl, HQ⟩ := hrel
        by_cases hlt2 : q < P
        · obtain ⟨b3, off3, rfl, hb3, hc3, hc4⟩ := H2.out q hlt2
          obtain ⟨x, hx⟩ : ∃ x, f q = x := ⟨_, rfl⟩
          obtain ⟨y, hy⟩ : ∃ y, g q = y := ⟨_, rfl⟩
          have hc3' : w.cell? ⟨b3, off3 + q * 2, none⟩ = some (.int .i64 x) := by rw [← hx]; exact hc3
          have hc4' : w.cell? ⟨b3, off3 + q * 2 + 1, none⟩ = some (.int .i64 y) := by rw [← hy]; exact hc4
          have HX := hide hx
          have HY := hide hy
          clear hc3 hx hc4 hy
          by_cases hd : (0 ≤ x ∧ x < S) ∧ (0 ≤ y ∧ y < S)
          · have HQ' : Hid (InRange (q + 1) f S ∧ InRange (q + 1) g S) := by
              constructor
              · intro j hj
                by_cases e : j = q
                · subst e; rw [HX.out]; exact hd.1
                · exact HQ.out.1 j (by omega)
              · intro j hj
                by_cases e : j = q
                · subst e; rw [HY.out]; exact hd.2
                · exact HQ.out.2 j (by omega)
            obtain ⟨⟨hd1, hd2⟩, hd3, hd4⟩ := hd
            go_wp2
            go_round
            case rel => exact ⟨q + 1, by omega, by go_num, HQ'⟩
            case measure => simp [intOf]; omega
          · by_cases x0 : x < 0
            · clear hd
              go_wp2
              go_ret
              exact ⟨Or.inl rfl, rfl⟩
            · have x0' : 0 ≤ x := by omega
              by_cases x1 : (S : Int) ≤ x
              · clear hd x0
                go_wp2
                go_ret
                exact ⟨Or.inl rfl, rfl⟩
              · have x1' : x < S := by omega
                by_cases y0 : y < 0
                · clear hd x0 x1
                  go_wp2
                  go_ret
                  exact ⟨Or.inl rfl, rfl⟩
                · have y0' : 0 ≤ y := by omega
                  have y1 : (S : Int) ≤ y := by omega
                  clear hd x0 x1 y0
                  go_wp2
                  go_ret
                  exact ⟨Or.inl rfl, rfl⟩
        · obtain rfl : q = P := by omega
          have HF : Hid (IdsOk k L c q f g S) := ⟨HK.out, HQ.out.1, HQ.out.2⟩
          go_wp2
          go_ret
          exact ⟨Or.inr ⟨rfl, HF.out⟩, rfl⟩

/-! ### the last block that lists a task -/
def lists (L : Nat → Nat) (c : Nat → Nat → Int) (t : Int) (i : Nat) : Prop := ∃ j, j < L i ∧ c i j = t
/-- r is the last of the first N blocks that lists t, or -1. -/
def IsLast (N : Nat) (L : Nat → Nat) (c : Nat → Nat → Int) (t r : Int) : Prop :=
  (∃ i : Nat, r = i ∧ i < N ∧ lists L c t i ∧ ∀ k, k < N → i < k → ¬ lists L c t k) ∨ (r = -1 ∧ ∀ k, k < N → ¬ lists L c t k)

set_option maxHeartbeats 1000000 in
theorem last27 (a : Option Addr) (N cN : Nat) (L : Nat → Nat) (c : Nat → Nat → Int) (t : Int) (hN : N ≤ 4096) (hL : Hid (∀ i, i < N → L i ≤ 4096)) (w : World) (h : Bl w a N L c) :
    Calls Try.prog 27 #[.slice a N cN, .int .i64 t] w fun e w' => (∃ r : Int, e = .returned (.int .i64 r) ∧ IsLast N L c t r) ∧ w = w' := by
  obtain ⟨ad, cp, h, hr⟩ := h
  have H := hide h
  have HR := hide hr
  clear h hr
  go_enter Try.func27, Try.ntmps27
  go_wp2
  go_loop [5, 6] (fun i _ => ∃ k : Nat, k ≤ N ∧ i = .int .i64 ((k : Int) - 1) ∧ Hid (∀ q, q < N → k ≤ q → ¬ lists L c t q)) (fun i _ => (intOf i + 1).toNat)
  case atStart => exact ⟨N, Nat.le_refl _, rfl, fun q h1 h2 => absurd h1 (by omega)⟩
  case round =>
    obtain ⟨k, hk, rfl, HK⟩ := hrel
    by_cases hlt : 0 < k
    · obtain ⟨i, rfl⟩ : ∃ i, k = i + 1 := ⟨k - 1, by omega⟩
      rw [show (((i + 1 : Nat) : Int) - 1) = (i : Int) from by omega]
      have hiN : i < N := by omega
      obtain ⟨b1, off, rfl, hb, hc⟩ := H.out i hiN
      have hLk := hL.out i hiN
      have di : decide ((0 : Int) ≤ i) = true := by simp
      go_wp2
      go_loop [6] (fun j => ∃ m : Nat, m ≤ L i ∧ j = .int .i64 m ∧ Hid (∀ q, q < m → c i q ≠ t)) (fun j => L i - (intOf j).toNat)
      case atStart => exact ⟨0, Nat.zero_le _, rfl, fun q hq => absurd hq (Nat.not_lt_zero q)⟩
      case round =>
        obtain ⟨m, hm, rfl, HM⟩ := hrel
        by_cases hlt2 : m < L i
        · obtain ⟨b3, off3, e3, hb3, hc3⟩ := HR.out i hiN m hlt2
          rw [e3] at hc
          obtain ⟨x, hx⟩ : ∃ x, c i m = x := ⟨_, rfl⟩
          have hc3' : w.cell? ⟨b3, off3 + m, none⟩ = some (.int .i64 x) := by rw [← hx]; exact hc3
          have HX := hide hx
          clear hc3 hx e3
          by_cases he : x = t
          · have HF : Hid (IsLast N L c t i) := Or.inl ⟨i, rfl, hiN, ⟨m, hlt2, by rw [HX.out]; exact he⟩, fun q h1 h2 => HK.out q h1 (by omega)⟩
            have hb' : (x == t) = true := by simpa using he
            clear he
            go_wp2
            go_ret
            exact ⟨⟨i, rfl, HF.out⟩, rfl⟩
          · have HM' : Hid (∀ q, q < m + 1 → c i q ≠ t) := by
              intro q hq
              by_cases e : q = m
              · subst e; rw [HX.out]; exact he
              · exact HM.out q (by omega)
            have hb' : (x == t) = false := by simpa using he
            clear he
            go_wp2
            go_round
            case rel => exact ⟨m + 1, by omega, by go_num, HM'⟩
            case measure => simp [intOf]; omega
        · obtain rfl : m = L i := by omega
          have HK' : Hid (∀ q, q < N → i ≤ q → ¬ lists L c t q) := by
            intro q h1 h2
            by_cases e : q = i
            · subst e; rintro ⟨j, hj, hcj⟩; exact HM.out j hj hcj
            · exact HK.out q h1 (by omega)
          go_wp2
          go_round
          case rel => exact ⟨i, by omega, by go_num, HK'⟩
          case measure => simp [intOf]
    · obtain rfl : k = 0 := by omega
      have HF : Hid (IsLast N L c t (-1)) := Or.inr ⟨rfl, fun q h1 => HK.out q h1 (by omega)⟩
      rw [show (((0 : Nat) : Int) - 1) = -1 from by omega]
      go_wp2
      go_ret
      exact ⟨⟨-1, rfl, HF.out⟩, rfl⟩
end Go.Proofs.Qxb6604014a
