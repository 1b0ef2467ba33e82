/-
  MORE WALKS of the three laws of readHeader: pbb1TrimBOM (11), strings.TrimPrefix (25, 32, 35) at the byte order mark, pbb1Bytes (9), pbb1HasRepeat (17), the three zzBytes (8, 15, 16). Seat b6604019a.
-/
import Derived.Test.Qxb6604019aStrs
namespace Go.Proofs.Qxb6604019a
open Go.RowKit
set_option linter.unusedVariables false

def bom : ByteArray := ⟨#[239, 187, 191]⟩
/-- The string opens with the byte order mark; the string without it. -/
def hasBom (s : ByteArray) : Bool := decide (3 ≤ s.size) && ((s.extract 0 3).toList == [239, 187, 191])
def trim (s : ByteArray) : ByteArray := if hasBom s = true then s.extract 3 s.size else s
theorem three {s : ByteArray} (h : 3 ≤ s.size) : (s.extract 0 3).toList = [s[0], s[1], s[2]] := by
  rw [ByteArray.toList_eq]
  obtain ⟨d⟩ := s
  have h' : 3 ≤ d.size := h
  apply List.ext_getElem
  · simp; omega
  · intro i h1 h2
    have : i < 3 := h2
    match i, this with
    | 0, _ => simp; rfl
    | 1, _ => simp; rfl
    | 2, _ => simp; rfl
theorem hasBom_iff {s : ByteArray} (h : 3 ≤ s.size) : hasBom s = true ↔ ((s[0].toNat : Int) = 239 ∧ (s[1].toNat : Int) = 187 ∧ (s[2].toNat : Int) = 191) := by
  unfold hasBom
  rw [three h]
  have key : ∀ (x : UInt8) (n : Nat) (hn : n < 256), x = UInt8.ofNat n ↔ (x.toNat : Int) = n := by
    intro x n hn
    constructor
    · rintro rfl; simp; omega
    · intro e
      apply UInt8.toNat_inj.1
      simp
      omega
  have k0 := key s[0] 239 (by omega)
  have k1 := key s[1] 187 (by omega)
  have k2 := key s[2] 191 (by omega)
  simp [h]
  constructor
  · rintro ⟨h0, h1, h2⟩; exact ⟨k0.1 h0, k1.1 h1, k2.1 h2⟩
  · rintro ⟨h0, h1, h2⟩; exact ⟨k0.2 h0, k1.2 h1, k2.2 h2⟩

theorem trim11 (s : ByteArray) (hs : s.size ≤ maxLen) (w : World) : Calls Try.prog 11 #[.string s] w fun e w' => e = .returned (.string (trim s)) ∧ w = w' := by
  unfold maxLen at hs
  obtain ⟨r, hr⟩ : ∃ r, trim s = r := ⟨_, rfl⟩
  rw [hr]
  by_cases h3 : 3 ≤ s.size
  · by_cases hb : hasBom s = true
    · obtain ⟨e0, e1, e2⟩ := (hasBom_iff h3).1 hb
      have HR : Hid (r = s.extract 3 s.size) := by rw [Hid, ← hr, trim, if_pos hb]
      clear hr hb
      go_enter Try.func11, Try.ntmps11
      go_wp2
      go_ret
      exact ⟨by rw [HR.out]; rfl, rfl⟩
    · have HR : Hid (r = s) := by rw [Hid, ← hr, trim, if_neg hb]
      have hn : ¬ ((s[0].toNat : Int) = 239 ∧ (s[1].toNat : Int) = 187 ∧ (s[2].toNat : Int) = 191) := fun h => hb ((hasBom_iff h3).2 h)
      clear hr hb
      generalize hx : (s[0].toNat : Int) = x at hn
      generalize hy : (s[1].toNat : Int) = y at hn
      generalize hz : (s[2].toNat : Int) = z at hn
      by_cases x0 : x = 239
      · by_cases y0 : y = 187
        · have z0 : (z == 191) = false := by simp; intro h; exact hn ⟨x0, y0, h⟩
          clear hn
          subst x0 y0
          go_enter Try.func11, Try.ntmps11
          go_wp2
          go_ret
          exact ⟨by rw [HR.out]; rfl, rfl⟩
        · have z0 : (y == 187) = false := by simpa using y0
          clear hn y0
          subst x0
          go_enter Try.func11, Try.ntmps11
          go_wp2
          go_ret
          exact ⟨by rw [HR.out]; rfl, rfl⟩
      · have z0 : (x == 239) = false := by simpa using x0
        clear hn x0
        go_enter Try.func11, Try.ntmps11
        go_wp2
        go_ret
        exact ⟨by rw [HR.out]; rfl, rfl⟩
  · have HR : Hid (r = s) := by rw [Hid, ← hr, trim, if_neg (by simp [hasBom, h3])]
    have h3' : s.size < 3 := by omega
    clear hr h3
    go_enter Try.func11, Try.ntmps11
    go_wp2
    go_ret
    exact ⟨by rw [HR.out]; rfl, rfl⟩

theorem has35 (s : ByteArray) (hs : s.size ≤ maxLen) (w : World) : Calls Try.prog 35 #[.string s, .string bom] w fun e w' => e = .returned (.bool (hasBom s)) ∧ w = w' := by
  unfold maxLen at hs
  unfold bom
  by_cases h3 : 3 ≤ s.size
  · obtain ⟨r, hr⟩ : ∃ r, hasBom s = r := ⟨_, rfl⟩
    rw [hr]
    have HR : Hid (((s.extract 0 3).toList == [239, 187, 191]) = r) := by rw [Hid, ← hr]; unfold hasBom; simp [h3]
    clear hr
    go_enter Try.func35, Try.ntmps35
    go_wp2
    go_ret
    exact ⟨by rw [← HR.out]; rfl, rfl⟩
  · have HR : hasBom s = false := by unfold hasBom; simp [h3]
    rw [HR]
    have h3' : s.size < 3 := by omega
    clear HR h3
    go_enter Try.func35, Try.ntmps35
    go_wp2
    go_ret
    exact ⟨rfl, rfl⟩
theorem lite32 (s : ByteArray) (hs : s.size ≤ maxLen) (w : World) : Calls Try.prog 32 #[.string s, .string bom] w fun e w' => e = .returned (.string (trim s)) ∧ w = w' := by
  obtain ⟨r, hr⟩ : ∃ r, trim s = r := ⟨_, rfl⟩
  rw [hr]
  have H35 := hide (has35 s hs w)
  unfold maxLen at hs
  cases hb : hasBom s with
  | true =>
    have HR : Hid (r = s.extract 3 s.size) := by rw [Hid, ← hr, trim, if_pos hb]
    have h3 : 3 ≤ s.size := by unfold hasBom at hb; simp at hb; exact hb.1
    rw [hb] at H35
    clear hr hb
    unfold bom at *
    go_enter Try.func32, Try.ntmps32
    go_wp2_with fail
    refine H35.out.mono ?_
    rintro e w' ⟨rfl, rfl⟩
    go_wp2_with fail
    go_ret
    exact ⟨by rw [HR.out]; rfl, rfl⟩
  | false =>
    have HR : Hid (r = s) := by rw [Hid, ← hr, trim, if_neg (by simp [hb])]
    rw [hb] at H35
    clear hr hb
    unfold bom at *
    go_enter Try.func32, Try.ntmps32
    go_wp2_with fail
    refine H35.out.mono ?_
    rintro e w' ⟨rfl, rfl⟩
    go_wp2_with fail
    go_ret
    exact ⟨by rw [HR.out]; rfl, rfl⟩
theorem trim25 (s : ByteArray) (hs : s.size ≤ maxLen) (w : World) : Calls Try.prog 25 #[.string s, .string ⟨#[239, 187, 191]⟩] w fun e w' => e = .returned (.string (trim s)) ∧ w = w' := by
  have H32 := hide (lite32 s hs w)
  unfold bom at H32
  clear hs
  go_enter Try.func25, Try.ntmps25
  go_wp2_with fail
  refine H32.out.mono ?_
  rintro e w' ⟨rfl, rfl⟩
  go_wp2_with fail
  go_ret
  exact ⟨rfl, rfl⟩

/-- All strings are short enough for their length to be an int. -/
def Fit (n : Nat) (f : Nat → ByteArray) : Prop := ∀ i, i < n → (f i).size ≤ maxLen

set_option maxHeartbeats 400000 in
theorem bytes9 (a : Option Addr) (n c : Nat) (f : Nat → ByteArray) (w : World) (hn : n ≤ 65536) (hf : Hid (Fit n f)) (h : Rd w a n (sv f)) :
    Calls Try.prog 9 #[.slice a n c] w fun e w' => (∃ r : Int, e = .returned (.int .i64 r) ∧ 0 ≤ r ∧ r ≤ 4194304) ∧ w = w' := by
  have H := hide h
  clear h
  go_enter Try.func9, Try.ntmps9
  go_wp2
  go_loop [3, 4] (fun z i => ∃ (k : Nat) (q : Int), k ≤ n ∧ i = .int .i64 k ∧ z = .int .i64 q ∧ 0 ≤ q ∧ q ≤ 1048576) (fun _ i => n - (intOf i).toNat)
  case atStart => exact ⟨0, 0, Nat.zero_le _, rfl, rfl, by omega, by omega⟩
  case round =>
    obtain ⟨k, q, hk, rfl, rfl, hq0, hq1⟩ := hrel
    by_cases hlt : k < n
    · obtain ⟨b, off, rfl, hb, hc⟩ := H.out k hlt
      unfold sv at hc
      have hLk := hf.out k hlt
      unfold maxLen at hLk
      obtain ⟨L, hL⟩ : ∃ L, (f k).size = L := ⟨_, rfl⟩
      rw [hL] at hLk
      by_cases h1 : 1048576 < L
      · have d1 : decide ((1048576 : Int) < L) = true := by simp; omega
        go_wp2
        go_ret
        exact ⟨⟨_, rfl, by omega, by omega⟩, rfl⟩
      · have d1 : decide ((1048576 : Int) < L) = false := by simp; omega
        by_cases h2 : 1048576 < q + (L + 16)
        · go_wp2
          go_ret
          exact ⟨⟨_, rfl, by omega, by omega⟩, rfl⟩
        · go_wp2
          go_round
          case rel => exact ⟨k + 1, q + (L + 16), by omega, by go_num, rfl, by omega, by omega⟩
          case measure => simp [intOf]; omega
    · obtain rfl : k = n := by omega
      go_wp2
      go_ret
      exact ⟨⟨_, rfl, by omega, by omega⟩, rfl⟩

/-- Some name stands twice. -/
def rep (f : Nat → ByteArray) (n : Nat) : Bool := (List.range n).any fun k => ear f k
theorem rep_true {f : Nat → ByteArray} {n k : Nat} (hk : k < n) (h : ear f k = true) : rep f n = true := List.any_eq_true.2 ⟨k, List.mem_range.2 hk, h⟩
theorem rep_false {f : Nat → ByteArray} {n : Nat} (h : ∀ k, k < n → ear f k = false) : rep f n = false := by
  cases e : rep f n with
  | false => rfl
  | true =>
    obtain ⟨k, hk, h'⟩ := List.any_eq_true.1 e
    rw [h k (List.mem_range.1 hk)] at h'
    cases h'
set_option maxHeartbeats 400000 in
theorem repeat17 (a : Option Addr) (n c : Nat) (f : Nat → ByteArray) (w : World) (hn : n ≤ 65536) (h : Rd w a n (sv f)) :
    Calls Try.prog 17 #[.slice a n c] w fun e w' => e = .returned (.bool (rep f n)) ∧ Below w.heap.size w w' := by
  have H := hide h
  clear h
  obtain ⟨r, hr⟩ : ∃ r, rep f n = r := ⟨_, rfl⟩
  have HR := hide hr
  rw [hr]
  clear hr
  go_enter Try.func17, Try.ntmps17
  go_wp2_with fail
  go_loopw [3] (fun i wr => ∃ q : Nat, q ≤ n ∧ i = .int .i64 q ∧ Hid (∀ j, j < q → ear f j = false) ∧ Below w.heap.size w wr) (fun i _ => n - (intOf i).toNat)
  case atStart => exact ⟨0, Nat.zero_le _, rfl, fun j hj => absurd hj (Nat.not_lt_zero j), Below.refl _ _⟩
  case round =>
    obtain ⟨q, hq, rfl, HK, hbe⟩ := hrel
    have HB := hide hbe
    have HE := hide (fun (hlt : q < n) => earlier12 a n c q f wr hn hlt (H.out.below hbe))
    clear hbe
    by_cases hlt : q < n
    · cases hs : ear f q with
      | true =>
        have HV := hide (rep_true hlt hs)
        rw [hs] at HE
        clear hs
        go_wp2_with fail
        refine (HE.out hlt).mono ?_
        rintro e w1 ⟨rfl, hb1⟩
        have HB1 := hide (below_trans HB.out hb1)
        clear hb1
        go_wp2_with fail
        go_ret
        exact ⟨by rw [← HR.out, HV.out]; rfl, HB1.out⟩
      | false =>
        have HK' : Hid (∀ j, j < q + 1 → ear f j = false) := by
          intro j hj
          by_cases e : j = q
          · subst e; exact hs
          · exact HK.out j (by omega)
        rw [hs] at HE
        clear hs
        go_wp2_with fail
        refine (HE.out hlt).mono ?_
        rintro e w1 ⟨rfl, hb1⟩
        have HB1 := hide (below_trans HB.out hb1)
        clear hb1
        go_wp2_with fail
        go_roundw
        case rel => exact ⟨q + 1, by omega, by go_num, HK', HB1.out⟩
        case measure => simp [intOf]; omega
    · obtain rfl : q = n := by omega
      have HV := hide (rep_false HK.out)
      clear HE
      go_wp2_with fail
      go_ret
      exact ⟨by rw [← HR.out, HV.out]; rfl, HB.out⟩

/-- The call hands back some bool. -/
def SomeBool (e : Ending) : Prop := ∃ r, e = .returned (.bool r)

set_option maxHeartbeats 1000000 in
theorem zz15 (a : Option Addr) (n c : Nat) (f : Nat → ByteArray) (t : ByteArray) (b : Option Addr) (m d : Nat) (g : Nat → ByteArray) (x : Int) (w : World) (hn : n ≤ maxLen) (hm : m ≤ maxLen) (ht : t.size ≤ maxLen) (hf : Hid (Fit n f)) (hg : Hid (Fit m g)) (h : Rd w a n (sv f)) (k : Rd w b m (sv g)) :
    Calls Try.prog 15 #[.slice a n c, .string t, .slice b m d, .int .i64 x] w fun e w' => SomeBool e ∧ w = w' := by
  have H := hide h
  have K := hide k
  clear h k
  unfold maxLen at hn hm ht
  obtain ⟨T, hT⟩ : ∃ T, t.size = T := ⟨_, rfl⟩
  rw [hT] at ht
  by_cases hn1 : 1048576 < n
  · go_enter Try.func15, Try.ntmps15
    go_wp2
    go_ret
    exact ⟨⟨_, rfl⟩, rfl⟩
  · have d1 : decide ((1048576 : Int) < n) = false := by simp; omega
    go_enter Try.func15, Try.ntmps15
    go_wp2_with fail
    go_loop [9, 10] (fun z i => ∃ (k : Nat) (q : Int), k ≤ n ∧ i = .int .i64 k ∧ z = .int .i64 q ∧ 0 ≤ q ∧ q ≤ 1048576) (fun _ i => n - (intOf i).toNat)
    case atStart => exact ⟨0, n, Nat.zero_le _, rfl, rfl, by omega, by omega⟩
    case round =>
      obtain ⟨k, q, hk, rfl, rfl, hq0, hq1⟩ := hrel
      by_cases hlt : k < n
      · obtain ⟨b1, off, rfl, hb, hc⟩ := H.out k hlt
        unfold sv at hc
        have hLk := hf.out k hlt
        unfold maxLen at hLk
        obtain ⟨L, hL⟩ : ∃ L, (f k).size = L := ⟨_, rfl⟩
        rw [hL] at hLk
        by_cases h1 : 1048576 < L
        · have d2 : decide ((1048576 : Int) < L) = true := by simp; omega
          go_wp2
          go_ret
          exact ⟨⟨_, rfl⟩, rfl⟩
        · have d2 : decide ((1048576 : Int) < L) = false := by simp; omega
          by_cases h2 : 1048576 < q + L
          · go_wp2
            go_ret
            exact ⟨⟨_, rfl⟩, rfl⟩
          · go_wp2
            go_round
            case rel => exact ⟨k + 1, q + L, by omega, by go_num, rfl, by omega, by omega⟩
            case measure => simp [intOf]; omega
      · obtain rfl : k = n := by omega
        by_cases s1 : 1048576 < T
        · have e1 : decide ((1048576 : Int) < T) = true := by simp; omega
          go_wp2
          go_ret
          exact ⟨⟨_, rfl⟩, rfl⟩
        · have e1 : decide ((1048576 : Int) < T) = false := by simp; omega
          by_cases s2 : 1048576 < q + T
          · go_wp2
            go_ret
            exact ⟨⟨_, rfl⟩, rfl⟩
          · by_cases s3 : 1048576 < m
            · have e3 : decide ((1048576 : Int) < m) = true := by simp; omega
              go_wp2
              go_ret
              exact ⟨⟨_, rfl⟩, rfl⟩
            · have e3 : decide ((1048576 : Int) < m) = false := by simp; omega
              by_cases s4 : 1048576 < q + T + m
              · go_wp2
                go_ret
                exact ⟨⟨_, rfl⟩, rfl⟩
              · go_wp2
                go_loop [9, 11] (fun z i => ∃ (k : Nat) (q : Int), k ≤ m ∧ i = .int .i64 k ∧ z = .int .i64 q ∧ 0 ≤ q ∧ q ≤ 1048576) (fun _ i => m - (intOf i).toNat)
                case atStart => exact ⟨0, q + T + m, Nat.zero_le _, rfl, rfl, by omega, by omega⟩
                case round =>
                  obtain ⟨j, p, hj, rfl, rfl, hp0, hp1⟩ := hrel
                  by_cases hlt2 : j < m
                  · obtain ⟨b2, off2, rfl, hb2, hc2⟩ := K.out j hlt2
                    unfold sv at hc2
                    have hLj := hg.out j hlt2
                    unfold maxLen at hLj
                    obtain ⟨M, hM⟩ : ∃ M, (g j).size = M := ⟨_, rfl⟩
                    rw [hM] at hLj
                    by_cases h1 : 1048576 < M
                    · have d2 : decide ((1048576 : Int) < M) = true := by simp; omega
                      go_wp2
                      go_ret
                      exact ⟨⟨_, rfl⟩, rfl⟩
                    · have d2 : decide ((1048576 : Int) < M) = false := by simp; omega
                      by_cases h2 : 1048576 < p + M
                      · go_wp2
                        go_ret
                        exact ⟨⟨_, rfl⟩, rfl⟩
                      · go_wp2
                        go_round
                        case rel => exact ⟨j + 1, p + M, by omega, by go_num, rfl, by omega, by omega⟩
                        case measure => simp [intOf]; omega
                  · obtain rfl : j = m := by omega
                    go_wp2
                    go_ret
                    exact ⟨⟨_, rfl⟩, rfl⟩

set_option maxHeartbeats 1000000 in
theorem zz8 (a : Option Addr) (n c : Nat) (f : Nat → ByteArray) (t : ByteArray) (b : Option Addr) (m d : Nat) (g : Nat → ByteArray) (x : Int) (w : World) (hn : n ≤ maxLen) (hm : m ≤ maxLen) (ht : t.size ≤ maxLen) (hf : Hid (Fit n f)) (hg : Hid (Fit m g)) (h : Rd w a n (sv f)) (k : Rd w b m (sv g)) :
    Calls Try.prog 8 #[.slice a n c, .string t, .slice b m d, .int .i64 x] w fun e w' => SomeBool e ∧ w = w' := by
  have H := hide h
  have K := hide k
  clear h k
  unfold maxLen at hn hm ht
  obtain ⟨T, hT⟩ : ∃ T, t.size = T := ⟨_, rfl⟩
  rw [hT] at ht
  by_cases hn1 : 1048576 < n
  · go_enter Try.func8, Try.ntmps8
    go_wp2
    go_ret
    exact ⟨⟨_, rfl⟩, rfl⟩
  · have d1 : decide ((1048576 : Int) < n) = false := by simp; omega
    go_enter Try.func8, Try.ntmps8
    go_wp2_with fail
    go_loop [9, 10] (fun z i => ∃ (k : Nat) (q : Int), k ≤ n ∧ i = .int .i64 k ∧ z = .int .i64 q ∧ 0 ≤ q ∧ q ≤ 1048576) (fun _ i => n - (intOf i).toNat)
    case atStart => exact ⟨0, n, Nat.zero_le _, rfl, rfl, by omega, by omega⟩
    case round =>
      obtain ⟨k, q, hk, rfl, rfl, hq0, hq1⟩ := hrel
      by_cases hlt : k < n
      · obtain ⟨b1, off, rfl, hb, hc⟩ := H.out k hlt
        unfold sv at hc
        have hLk := hf.out k hlt
        unfold maxLen at hLk
        obtain ⟨L, hL⟩ : ∃ L, (f k).size = L := ⟨_, rfl⟩
        rw [hL] at hLk
        by_cases h1 : 1048576 < L
        · have d2 : decide ((1048576 : Int) < L) = true := by simp; omega
          go_wp2
          go_ret
          exact ⟨⟨_, rfl⟩, rfl⟩
        · have d2 : decide ((1048576 : Int) < L) = false := by simp; omega
          by_cases h2 : 1048576 < q + L
          · go_wp2
            go_ret
            exact ⟨⟨_, rfl⟩, rfl⟩
          · go_wp2
            go_round
            case rel => exact ⟨k + 1, q + L, by omega, by go_num, rfl, by omega, by omega⟩
            case measure => simp [intOf]; omega
      · obtain rfl : k = n := by omega
        by_cases s1 : 1048576 < T
        · have e1 : decide ((1048576 : Int) < T) = true := by simp; omega
          go_wp2
          go_ret
          exact ⟨⟨_, rfl⟩, rfl⟩
        · have e1 : decide ((1048576 : Int) < T) = false := by simp; omega
          by_cases s2 : 1048576 < q + T
          · go_wp2
            go_ret
            exact ⟨⟨_, rfl⟩, rfl⟩
          · by_cases s3 : 1048576 < m
            · have e3 : decide ((1048576 : Int) < m) = true := by simp; omega
              go_wp2
              go_ret
              exact ⟨⟨_, rfl⟩, rfl⟩
            · have e3 : decide ((1048576 : Int) < m) = false := by simp; omega
              by_cases s4 : 1048576 < q + T + m
              · go_wp2
                go_ret
                exact ⟨⟨_, rfl⟩, rfl⟩
              · go_wp2
                go_loop [9, 11] (fun z i => ∃ (k : Nat) (q : Int), k ≤ m ∧ i = .int .i64 k ∧ z = .int .i64 q ∧ 0 ≤ q ∧ q ≤ 1048576) (fun _ i => m - (intOf i).toNat)
                case atStart => exact ⟨0, q + T + m, Nat.zero_le _, rfl, rfl, by omega, by omega⟩
                case round =>
                  obtain ⟨j, p, hj, rfl, rfl, hp0, hp1⟩ := hrel
                  by_cases hlt2 : j < m
                  · obtain ⟨b2, off2, rfl, hb2, hc2⟩ := K.out j hlt2
                    unfold sv at hc2
                    have hLj := hg.out j hlt2
                    unfold maxLen at hLj
                    obtain ⟨M, hM⟩ : ∃ M, (g j).size = M := ⟨_, rfl⟩
                    rw [hM] at hLj
                    by_cases h1 : 1048576 < M
                    · have d2 : decide ((1048576 : Int) < M) = true := by simp; omega
                      go_wp2
                      go_ret
                      exact ⟨⟨_, rfl⟩, rfl⟩
                    · have d2 : decide ((1048576 : Int) < M) = false := by simp; omega
                      by_cases h2 : 1048576 < p + M
                      · go_wp2
                        go_ret
                        exact ⟨⟨_, rfl⟩, rfl⟩
                      · go_wp2
                        go_round
                        case rel => exact ⟨j + 1, p + M, by omega, by go_num, rfl, by omega, by omega⟩
                        case measure => simp [intOf]; omega
                  · obtain rfl : j = m := by omega
                    go_wp2
                    go_ret
                    exact ⟨⟨_, rfl⟩, rfl⟩

set_option maxHeartbeats 1000000 in
theorem zz16 (a : Option Addr) (n c : Nat) (f : Nat → ByteArray) (t : ByteArray) (b : Option Addr) (m d : Nat) (g : Nat → ByteArray) (x : Int) (w : World) (hn : n ≤ maxLen) (hm : m ≤ maxLen) (ht : t.size ≤ maxLen) (hf : Hid (Fit n f)) (hg : Hid (Fit m g)) (h : Rd w a n (sv f)) (k : Rd w b m (sv g)) :
    Calls Try.prog 16 #[.slice a n c, .string t, .slice b m d, .int .i64 x] w fun e w' => SomeBool e ∧ w = w' := by
  have H := hide h
  have K := hide k
  clear h k
  unfold maxLen at hn hm ht
  obtain ⟨T, hT⟩ : ∃ T, t.size = T := ⟨_, rfl⟩
  rw [hT] at ht
  by_cases hn1 : 1048576 < n
  · go_enter Try.func16, Try.ntmps16
    go_wp2
    go_ret
    exact ⟨⟨_, rfl⟩, rfl⟩
  · have d1 : decide ((1048576 : Int) < n) = false := by simp; omega
    go_enter Try.func16, Try.ntmps16
    go_wp2_with fail
    go_loop [9, 10] (fun z i => ∃ (k : Nat) (q : Int), k ≤ n ∧ i = .int .i64 k ∧ z = .int .i64 q ∧ 0 ≤ q ∧ q ≤ 1048576) (fun _ i => n - (intOf i).toNat)
    case atStart => exact ⟨0, n, Nat.zero_le _, rfl, rfl, by omega, by omega⟩
    case round =>
      obtain ⟨k, q, hk, rfl, rfl, hq0, hq1⟩ := hrel
      by_cases hlt : k < n
      · obtain ⟨b1, off, rfl, hb, hc⟩ := H.out k hlt
        unfold sv at hc
        have hLk := hf.out k hlt
        unfold maxLen at hLk
        obtain ⟨L, hL⟩ : ∃ L, (f k).size = L := ⟨_, rfl⟩
        rw [hL] at hLk
        by_cases h1 : 1048576 < L
        · have d2 : decide ((1048576 : Int) < L) = true := by simp; omega
          go_wp2
          go_ret
          exact ⟨⟨_, rfl⟩, rfl⟩
        · have d2 : decide ((1048576 : Int) < L) = false := by simp; omega
          by_cases h2 : 1048576 < q + L
          · go_wp2
            go_ret
            exact ⟨⟨_, rfl⟩, rfl⟩
          · go_wp2
            go_round
            case rel => exact ⟨k + 1, q + L, by omega, by go_num, rfl, by omega, by omega⟩
            case measure => simp [intOf]; omega
      · obtain rfl : k = n := by omega
        by_cases s1 : 1048576 < T
        · have e1 : decide ((1048576 : Int) < T) = true := by simp; omega
          go_wp2
          go_ret
          exact ⟨⟨_, rfl⟩, rfl⟩
        · have e1 : decide ((1048576 : Int) < T) = false := by simp; omega
          by_cases s2 : 1048576 < q + T
          · go_wp2
            go_ret
            exact ⟨⟨_, rfl⟩, rfl⟩
          · by_cases s3 : 1048576 < m
            · have e3 : decide ((1048576 : Int) < m) = true := by simp; omega
              go_wp2
              go_ret
              exact ⟨⟨_, rfl⟩, rfl⟩
            · have e3 : decide ((1048576 : Int) < m) = false := by simp; omega
              by_cases s4 : 1048576 < q + T + m
              · go_wp2
                go_ret
                exact ⟨⟨_, rfl⟩, rfl⟩
              · go_wp2
                go_loop [9, 11] (fun z i => ∃ (k : Nat) (q : Int), k ≤ m ∧ i = .int .i64 k ∧ z = .int .i64 q ∧ 0 ≤ q ∧ q ≤ 1048576) (fun _ i => m - (intOf i).toNat)
                case atStart => exact ⟨0, q + T + m, Nat.zero_le _, rfl, rfl, by omega, by omega⟩
                case round =>
                  obtain ⟨j, p, hj, rfl, rfl, hp0, hp1⟩ := hrel
                  by_cases hlt2 : j < m
                  · obtain ⟨b2, off2, rfl, hb2, hc2⟩ := K.out j hlt2
                    unfold sv at hc2
                    have hLj := hg.out j hlt2
                    unfold maxLen at hLj
                    obtain ⟨M, hM⟩ : ∃ M, (g j).size = M := ⟨_, rfl⟩
                    rw [hM] at hLj
                    by_cases h1 : 1048576 < M
                    · have d2 : decide ((1048576 : Int) < M) = true := by simp; omega
                      go_wp2
                      go_ret
                      exact ⟨⟨_, rfl⟩, rfl⟩
                    · have d2 : decide ((1048576 : Int) < M) = false := by simp; omega
                      by_cases h2 : 1048576 < p + M
                      · go_wp2
                        go_ret
                        exact ⟨⟨_, rfl⟩, rfl⟩
                      · go_wp2
                        go_round
                        case rel => exact ⟨j + 1, p + M, by omega, by go_num, rfl, by omega, by omega⟩
                        case measure => simp [intOf]; omega
                  · obtain rfl : j = m := by omega
                    go_wp2
                    go_ret
                    exact ⟨⟨_, rfl⟩, rfl⟩
end Go.Proofs.Qxb6604019a
