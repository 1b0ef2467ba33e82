/-
  THE WALK OF b1InsertionSort (30) over a row of the call's own, and its plain meaning; b1SameLists (15). Seat b6604014a.
-/
import Derived.Test.Qxb6604014aPrefCopy
import Derived.Deep.QuietTactic
import Derived.BigQuiet
namespace Go.Proofs.Qxb6604014a
open Go.RowKit
set_option linter.unusedVariables false

/-! ### plain: sorted, in another order -/
/-- The first n numbers as a list. -/
def ls (n : Nat) (z : Nat → Int) : List Int := (List.range n).map z
theorem ls_succ (n : Nat) (z : Nat → Int) : ls (n + 1) z = ls n z ++ [z n] := by unfold ls; rw [List.range_succ, List.map_append]; rfl
theorem ls_length (n : Nat) (z : Nat → Int) : (ls n z).length = n := by unfold ls; simp
theorem ls_get (n : Nat) (z : Nat → Int) (i : Nat) (h : i < n) : (ls n z).getD i 0 = z i := by unfold ls; simp [h]
theorem ls_congr {n : Nat} {y z : Nat → Int} (h : ∀ i, i < n → y i = z i) : ls n y = ls n z := by
  unfold ls
  exact List.map_congr_left fun i hi => h i (List.mem_range.1 hi)

def swp (z : Nat → Int) (q : Nat) : Nat → Int := fun i => if i = q then z (q + 1) else if i = q + 1 then z q else z i
theorem swp_0 (z : Nat → Int) (q : Nat) : swp z q q = z (q + 1) := if_pos rfl
theorem swp_1 (z : Nat → Int) (q : Nat) : swp z q (q + 1) = z q := by unfold swp; rw [if_neg (by omega), if_pos rfl]
theorem swp_ne (z : Nat → Int) {q i : Nat} (h : i ≠ q) (h' : i ≠ q + 1) : swp z q i = z i := by unfold swp; rw [if_neg h, if_neg h']

theorem swp_perm (z : Nat → Int) (q : Nat) : ∀ n, q + 1 < n → (ls n (swp z q)).Perm (ls n z) := by
  intro n
  induction n with
  | zero => intro h; omega
  | succ n ih =>
    intro h
    by_cases e : n = q + 1
    · subst e
      rw [ls_succ, ls_succ, ls_succ, ls_succ, swp_0, swp_1, ls_congr (y := swp z q) (z := z) fun i hi => swp_ne z (by omega) (by omega)]
      rw [List.append_assoc, List.append_assoc]
      exact (List.Perm.swap _ _ _).append_left _
    · rw [ls_succ, ls_succ, swp_ne z (by omega) (by omega)]
      exact (ih (by omega)).append_right _

def SortedTo (m : Nat) (z : Nat → Int) : Prop := ∀ i j, i < j → j < m → z i ≤ z j
/-- All but place m of the first k + 1 are in order, and what stands behind m is not less than it. -/
def Ins (k m : Nat) (y : Nat → Int) : Prop := (∀ i j, i < j → j ≤ k → i ≠ m → j ≠ m → y i ≤ y j) ∧ ∀ j, m < j → j ≤ k → y m ≤ y j

theorem ins_start {k : Nat} {y : Nat → Int} (h : SortedTo k y) : Ins k k y := ⟨fun i j hij hj _ hjm => h i j hij (by omega), fun j h1 h2 => by omega⟩
theorem ins_step {k q : Nat} {y : Nat → Int} (h : Ins k (q + 1) y) (hq : q + 1 ≤ k) (hs : y (q + 1) < y q) : Ins k q (swp y q) := by
  obtain ⟨h1, h2⟩ := h
  constructor
  · intro i j hij hj hi hj'
    by_cases ei : i = q + 1
    · subst ei
      rw [swp_1, swp_ne y (by omega) (by omega)]
      exact h1 q j (by omega) hj (by omega) (by omega)
    · by_cases ej : j = q + 1
      · subst ej
        rw [swp_1, swp_ne y hi ei]
        exact h1 i q (by omega) (by omega) ei (by omega)
      · rw [swp_ne y hi ei, swp_ne y hj' ej]
        exact h1 i j hij hj ei ej
  · intro j h3 h4
    rw [swp_0]
    by_cases ej : j = q + 1
    · subst ej; rw [swp_1]; omega
    · rw [swp_ne y (by omega) ej]
      exact h2 j (by omega) h4
theorem ins_stop {k q : Nat} {y : Nat → Int} (h : Ins k (q + 1) y) (hq : q + 1 ≤ k) (hs : ¬ y (q + 1) < y q) : SortedTo (k + 1) y := by
  obtain ⟨h1, h2⟩ := h
  intro i j hij hj
  by_cases ei : i = q + 1
  · subst ei; exact h2 j hij (by omega)
  · by_cases ej : j = q + 1
    · subst ej
      by_cases e : i = q
      · subst e; omega
      · have := h1 i q (by omega) (by omega) ei (by omega)
        omega
    · exact h1 i j hij (by omega) ei ej
theorem ins_zero {k : Nat} {y : Nat → Int} (h : Ins k 0 y) : SortedTo (k + 1) y := by
  obtain ⟨h1, h2⟩ := h
  intro i j hij hj
  by_cases ei : i = 0
  · subst ei; exact h2 j hij (by omega)
  · exact h1 i j hij (by omega) ei (by omega)

/-- The library's word for sorting. -/
def srt (l : List Int) : List Int := l.mergeSort fun x y => decide (x ≤ y)
theorem srt_of {n : Nat} {y z : Nat → Int} (hs : SortedTo n y) (hp : (ls n y).Perm (ls n z)) : ls n y = srt (ls n z) := by
  have h1 : (ls n y).Pairwise fun a b => decide (a ≤ b) = true := by
    unfold ls
    rw [List.pairwise_map, List.pairwise_iff_getElem]
    intro i j hi hj hij
    simp at hi hj
    simpa using hs i j hij hj
  unfold srt
  have tr : ∀ a b c : Int, decide (a ≤ b) = true → decide (b ≤ c) = true → decide (a ≤ c) = true := by
    intro a b c h1 h2
    simp at h1 h2 ⊢
    omega
  have tot : ∀ a b : Int, (decide (a ≤ b) || decide (b ≤ a)) = true := by
    intro a b
    simp
    omega
  have h2 := List.pairwise_mergeSort (le := fun x y : Int => decide (x ≤ y)) tr tot (ls n z)
  have h3 : (ls n y).Perm ((ls n z).mergeSort fun x y => decide (x ≤ y)) := hp.trans (List.mergeSort_perm _ _).symm
  refine List.Perm.eq_of_pairwise (le := fun a b => decide (a ≤ b) = true) ?_ h1 h2 h3
  intro a b _ _ hab hba
  simp at hab hba
  omega

/-! ### a row of integers that may be written -/
def Hs (w : World) (g n : Nat) (z : Nat → Int) : Prop := g < w.heap.size ∧ ∀ i, i < n → w.cell? ⟨g, i, none⟩ = some (.int .i64 (z i)) ∧ w.frozen? ⟨g, i, none⟩ = false
theorem Hs.drewN {w : World} {g n : Nat} {z : Nat → Int} (h : Hs w g n z) (q : Nat) : Hs (w.drewN q) g n z := h
theorem Hs.congr {w : World} {g n : Nat} {y z : Nat → Int} (h : Hs w g n z) (e : ∀ i, i < n → z i = y i) : Hs w g n y := ⟨h.1, fun i hi => by rw [← e i hi]; exact h.2 i hi⟩
theorem Hs.set {w : World} {g n i : Nat} {z : Nat → Int} (h : Hs w g n z) (hi : i < n) (x : Int) : Hs (w.setCell ⟨g, i, none⟩ (.int .i64 x)) g n (fun j => if j = i then x else z j) := by
  refine ⟨by simpa [World.setCell] using h.1, fun j hj => ⟨?_, ?_⟩⟩
  · show _ = some (Value.int .i64 (if j = i then x else z j))
    by_cases e : j = i
    · subst e
      rw [if_pos rfl]
      exact World.cell?_setCell_same _ _ _ (h.2 j hj).1
    · rw [if_neg e, World.cell?_setCell_other w _ _ _ (fun h => e (by simpa using (congrArg Addr.off h).symm))]
      exact (h.2 j hj).1
  · rw [World.frozen?_setCell]
    exact (h.2 j hj).2
theorem Hs.swap {w : World} {g n q : Nat} {z : Nat → Int} (h : Hs w g n z) (hq : q + 1 < n) : Hs ((w.setCell ⟨g, q, none⟩ (.int .i64 (z (q + 1)))).setCell ⟨g, q + 1, none⟩ (.int .i64 (z q))) g n (swp z q) := by
  refine ((h.set (i := q) (by omega) (z (q + 1))).set (i := q + 1) hq (z q)).congr fun i hi => ?_
  unfold swp
  by_cases e1 : i = q + 1
  · subst e1; rw [if_pos rfl, if_neg (by omega), if_pos rfl]
  · rw [if_neg e1]
    by_cases e0 : i = q
    · rw [if_pos e0, if_pos e0]
    · rw [if_neg e0, if_neg e0, if_neg e1]

theorem grownBy_refl (w : World) (r : Option Nat) : w.grownBy w r := ⟨rfl, rfl, rfl, Nat.le_refl _, fun _ _ _ => rfl⟩
theorem grownBy_drewN {a w : World} {r : Option Nat} (h : a.grownBy w r) (n : Nat) : a.grownBy (w.drewN n) r := ⟨h.os, h.tape, h.output, h.size, h.block⟩
theorem grownBy_set {a w : World} {g : Nat} (h : a.grownBy w (some g)) (i : Nat) (v : Value) : a.grownBy (w.setCell ⟨g, i, none⟩ v) (some g) :=
  ⟨h.os, h.tape, h.output, by simpa [World.setCell] using h.size, fun k hk hne => by rw [Below.heap_setCell w ⟨g, i, none⟩ v k (fun e => hne (by rw [e]))]; exact h.block k hk hne⟩

set_option maxHeartbeats 1000000 in
theorem sort30 (g n c : Nat) (z : Nat → Int) (w : World) (hn : n ≤ 65536) (hrow : Hs w g n z) :
    Calls Try.prog 30 #[.slice (some ⟨g, 0, none⟩) n c] w fun e w' => e = .returned (.tuple #[]) ∧ (∃ y, Hs w' g n y ∧ ls n y = srt (ls n z)) ∧ w.grownBy w' (some g) := by
  have HR := hide hrow
  clear hrow
  go_enter Try.func30, Try.ntmps30
  go_wp2
  go_loopw [2, 3, 4] (fun i _ _ wr => ∃ (k : Nat) (y : Nat → Int), 1 ≤ k ∧ (k ≤ n ∨ k = 1) ∧ i = .int .i64 k ∧ Hs wr g n y ∧ SortedTo k y ∧ (ls n y).Perm (ls n z) ∧ w.grownBy wr (some g)) (fun i _ _ _ => n - (intOf i).toNat)
  case atStart => exact ⟨1, z, by omega, Or.inr rfl, rfl, HR.out, fun i j h1 h2 => by omega, List.Perm.refl _, grownBy_refl _ _⟩
  case round =>
    obtain ⟨k, y, h1, hk, rfl, hrow, hso, hpe, hgr⟩ := hrel
    have HY := hide hrow
    have HS := hide hso
    have HP := hide hpe
    have HG := hide hgr
    clear hrow hso hpe hgr
    by_cases hlt : k < n
    · have hkn : k ≤ n := by omega
      clear hk
      have dk : decide ((k : Int) < n) = true := by simp; omega
      go_wp2_with fail
      go_loopw [3, 4] (fun j _ wr => ∃ (m : Nat) (y : Nat → Int), m ≤ k ∧ j = .int .i64 m ∧ Hs wr g n y ∧ Ins k m y ∧ (ls n y).Perm (ls n z) ∧ w.grownBy wr (some g)) (fun j _ _ => (intOf j).toNat)
      case atStart => exact ⟨k, y, Nat.le_refl _, rfl, HY.out, ins_start HS.out, HP.out, HG.out⟩
      case round =>
        obtain ⟨m, y2, hm, rfl, hrow, hin, hpe, hgr⟩ := hrel
        have HY2 := hide hrow
        have HI := hide hin
        have HP2 := hide hpe
        have HG2 := hide hgr
        clear hin hpe hgr
        by_cases hm0 : 0 < m
        · obtain ⟨q, rfl⟩ : ∃ q, m = q + 1 := ⟨m - 1, by omega⟩
          have c1 : wr.cell? ⟨g, q, none⟩ = some (.int .i64 (y2 q)) := (hrow.2 q (by omega)).1
          have c2 : wr.cell? ⟨g, q + 1, none⟩ = some (.int .i64 (y2 (q + 1))) := (hrow.2 (q + 1) (by omega)).1
          have f1 : wr.frozen? ⟨g, q, none⟩ = false := (hrow.2 q (by omega)).2
          have f2 : wr.frozen? ⟨g, q + 1, none⟩ = false := (hrow.2 (q + 1) (by omega)).2
          have dm : decide ((0 : Int) < ((q + 1 : Nat) : Int)) = true := by simp
          clear hrow
          go_wp2_with fail
          go_quiet (fail)
          by_cases hsw : y2 (q + 1) < y2 q
          · have I' := hide (ins_step HI.out hm hsw)
            go_wp2
            go_roundw
            case rel => exact ⟨q, _, by omega, rfl, Hs.swap (HY2.out.drewN nq) (by omega), I'.out, (swp_perm y2 q n (by omega)).trans HP2.out, grownBy_set (grownBy_set (grownBy_drewN HG2.out nq) _ _) _ _⟩
            case measure => simp [intOf]
          · have I' := hide (ins_stop HI.out hm hsw)
            go_wp2
            go_roundw
            case rel => exact ⟨k + 1, y2, by omega, Or.inl (by omega), by go_num, HY2.out.drewN nq, I'.out, HP2.out, grownBy_drewN HG2.out nq⟩
            case measure => simp [intOf]; omega
        · obtain rfl : m = 0 := by omega
          have I' := hide (ins_zero HI.out)
          clear hrow
          have dm : decide ((0 : Int) < ((0 : Nat) : Int)) = false := by simp
          go_wp2_with fail
          go_quiet (fail)
          go_wp2
          go_roundw
          case rel => exact ⟨k + 1, y2, by omega, Or.inl (by omega), by go_num, HY2.out.drewN nq, I'.out, HP2.out, grownBy_drewN HG2.out nq⟩
          case measure => simp [intOf]; omega
    · have HF : Hid (ls n y = srt (ls n z)) := srt_of (fun i j hij hj => HS.out i j hij (by omega)) HP.out
      have dk : decide ((k : Int) < n) = false := by simp; omega
      go_wp2_with fail
      go_end0
      exact ⟨rfl, ⟨y, HY.out, HF.out⟩, HG.out⟩

/-! ### two slices of rows that read alike -/
set_option maxHeartbeats 1000000 in
theorem same15 (a b : Option Addr) (N c d : Nat) (L : Nat → Nat) (x : Nat → Nat → Int) (w : World) (hN : N ≤ 4096) (hL : Hid (∀ i, i < N → L i ≤ 4096)) (ha : Bl w a N L x) (hb : Bl w b N L x) :
    Calls Try.prog 15 #[.slice a N c, .slice b N d] w fun e w' => e = .returned (.bool true) ∧ ∃ q, w' = w.drewN q := by
  obtain ⟨ad, cp, h1, r1⟩ := ha
  obtain ⟨bd, dp, h2, r2⟩ := hb
  have H1 := hide h1
  have R1 := hide r1
  have H2 := hide h2
  have R2 := hide r2
  clear h1 r1 h2 r2
  have nb : ((N : Int) != (N : Int)) = false := by simp
  go_enter Try.func15, Try.ntmps15
  go_wp2
  go_loopw [5, 6] (fun i _ wr => ∃ k q : Nat, k ≤ N ∧ i = .int .i64 k ∧ wr = w.drewN q) (fun i _ _ => N - (intOf i).toNat)
  case atStart => exact ⟨0, 0, Nat.zero_le _, rfl, rfl⟩
  case round =>
    obtain ⟨k, q, hk, rfl, rfl⟩ := hrel
    by_cases hlt : k < N
    · obtain ⟨b1, o1, rfl, l1, c1⟩ := H1.out k hlt
      obtain ⟨b2, o2, rfl, l2, c2⟩ := H2.out k hlt
      have hLk := hL.out k hlt
      have dk : decide ((k : Int) < N) = true := by simp; omega
      have k0 : (0 : Int) ≤ k := by omega
      have kN : (k : Int) < N := by omega
      have lb : ((L k : Int) != (L k : Int)) = false := by simp
      go_wp2
      go_quiet (fail)
      go_wp2
      go_loopw [6] (fun j wr => ∃ m q : Nat, m ≤ L k ∧ j = .int .i64 m ∧ wr = w.drewN q) (fun j _ => L k - (intOf j).toNat)
      case atStart => exact ⟨0, _, Nat.zero_le _, rfl, by rw [World.drewN_drewN]⟩
      case round =>
        obtain ⟨m, q2, hm, rfl, rfl⟩ := hrel
        by_cases hlt2 : m < L k
        · obtain ⟨b3, o3, e3, l3, c3⟩ := R1.out k hlt m hlt2
          obtain ⟨b4, o4, e4, l4, c4⟩ := R2.out k hlt m hlt2
          rw [e3] at c1
          rw [e4] at c2
          have dm : decide ((m : Int) < L k) = true := by simp; omega
          have m0 : (0 : Int) ≤ m := by omega
          have mL : (m : Int) < L k := by omega
          have xb : (x k m != x k m) = false := by simp
          unfold iv at c3 c4
          clear e3 e4
          go_wp2
          go_quiet (fail)
          go_wp2
          go_roundw
          case rel => exact ⟨m + 1, _, by omega, by go_num, rfl⟩
          case measure => simp [intOf]; omega
        · obtain rfl : m = L k := by omega
          go_wp2
          go_roundw
          case rel => exact ⟨k + 1, _, by omega, by go_num, rfl⟩
          case measure => simp [intOf]; omega
    · go_wp2
      go_ret
      exact ⟨rfl, q, rfl⟩
end Go.Proofs.Qxb6604014a
