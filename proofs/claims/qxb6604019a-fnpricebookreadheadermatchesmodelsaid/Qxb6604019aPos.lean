/-
  THE LAW FnPricebookReadHeaderPositionsReadTheirColumn (4), walked. Seat b6604019a.
-/
import Derived.Test.Qxb6604019aHead
namespace Go.Proofs.Qxb6604019a
open Go.RowKit
set_option linter.unusedVariables false

namespace Hd
variable (D : Hd)
theorem fst_hit {p : Nat → Bool} {n c : Nat} (h : fst p n = (c : Int)) : c < n ∧ p c = true ∧ ∀ j, j < c → p j = false := by
  rcases fst_is p n with ⟨i, hi, e, h1, h2⟩ | ⟨e, _⟩
  · obtain rfl : i = c := by omega
    exact ⟨hi, h1, h2⟩
  · omega
theorem fst_neg {p : Nat → Bool} {n : Nat} : fst p n < 0 ↔ ∀ j, j < n → p j = false := by
  constructor
  · intro h
    rcases fst_is p n with ⟨i, hi, e, h1, h2⟩ | ⟨e, h1⟩
    · omega
    · exact h1
  · intro h
    rcases fst_is p n with ⟨i, hi, e, h1, h2⟩ | ⟨e, h1⟩
    · have := h i hi; rw [h1] at this; cases this
    · omega
theorem col_hit {i c : Nat} (h : D.col i = (c : Int)) : c < D.m ∧ D.C c = D.h i ∧ ∀ j, j < c → D.C j ≠ D.h i := by
  obtain ⟨h1, h2, h3⟩ := fst_hit h
  exact ⟨h1, seq_iff.1 h2, fun j hj e => by have := h3 j hj; rw [seq_iff.2 e] at this; cases this⟩
theorem ix_some {i c : Nat} (h : 0 ≤ D.ix i c) : ∃ j, j < i ∧ D.ix i c = (j : Int) ∧ D.col j = (c : Int) := by
  induction i with
  | zero => exact absurd h (by show ¬ (0 : Int) ≤ -1; omega)
  | succ i ih =>
    unfold ix at h ⊢
    by_cases hc : D.col i = (c : Int) ∧ D.ix i c < 0
    · rw [if_pos hc]
      exact ⟨i, by omega, rfl, hc.1⟩
    · rw [if_neg hc] at h ⊢
      obtain ⟨j, h1, h2, h3⟩ := ih h
      exact ⟨j, by omega, h2, h3⟩
/-- A position reads its column; no two columns share one. -/
theorem ix_reads {i c j : Nat} (h : D.ix i c = (j : Int)) : D.h j = D.C c := by
  obtain ⟨k, h1, h2, h3⟩ := D.ix_some (i := i) (c := c) (by omega)
  obtain rfl : k = j := by omega
  exact (D.col_hit h3).2.1.symm
theorem ix_apart {i c d j : Nat} (h : D.ix i c = (j : Int)) (hd : d < c) : D.ix i d ≠ (j : Int) := by
  intro h'
  obtain ⟨k, h1, h2, h3⟩ := D.ix_some (i := i) (c := c) (by omega)
  obtain ⟨k', h1', h2', h3'⟩ := D.ix_some (i := i) (c := d) (by omega)
  obtain rfl : k = k' := by omega
  omega
end Hd

theorem Rd.grown {w w' : World} {a : Option Addr} {n : Nat} {f : Nat → Value} {row : Option Nat} (h : Rd w a n f) (hg : w.grownBy w' row) (hne : ∀ q, a = some q → some q.block ≠ row) : Rd w' a n f := by
  intro i hi
  obtain ⟨b, off, ha, hlt, hc⟩ := h i hi
  exact ⟨b, off, ha, Nat.lt_of_lt_of_le hlt hg.size, by rw [hg.cell_far ⟨b, off + i, none⟩ hlt (hne ⟨b, off, none⟩ ha)]; exact hc⟩
/-- Two copies, one behind the other, lie in blocks of their own. -/
theorem rw_apart {B B' : Nat} {w w' : World} {a b : Option Addr} {t : TypeId} {n m : Nat} {f g : Nat → Value} (h : Rw B w a t n f) (k : Rw w.heap.size w' b t m g) : ∀ p q, a = some p → b = some q → p.block ≠ q.block := by
  intro p q hp hq
  rcases h with ⟨e, _⟩ | ⟨x, _, e, hx⟩
  · rw [e] at hp; cases hp
  · rcases k with ⟨e', _⟩ | ⟨y, hy, e', _⟩
    · rw [e'] at hq; cases hq
    · rw [e] at hp
      rw [e'] at hq
      cases hp
      cases hq
      have := hx.lt
      show x ≠ y
      omega
theorem rw_low {B : Nat} {w : World} {a : Option Addr} {t : TypeId} {n : Nat} {f : Nat → Value} (h : Rw B w a t n f) : ∀ q, a.map (·.block) = some q → B ≤ q := by
  intro q hq
  rcases h with ⟨e, _⟩ | ⟨x, hx, e, _⟩
  · rw [e] at hq; cases hq
  · rw [e] at hq
    cases hq
    exact hx

set_option maxRecDepth 100000 in
set_option maxHeartbeats 4000000 in
theorem law4 (a b : Option Addr) (n c m d : Nat) (f g : Nat → ByteArray) (what : ByteArray) (x : Int) (w : World) (mn : n ≤ maxLen) (mm : m ≤ maxLen) (mt : what.size ≤ maxLen) (hf : Fit n f) (hg : Fit m g) (ha : Rd w a n (sv f)) (hb : Rd w b m (sv g)) :
    Calls Try.prog 4 #[.slice a n c, .string what, .slice b m d, .int .i64 x] w fun e w' => e = .returned (.bool true) ∧ Below w.heap.size w w' := by
  have HA := hide ha
  have HB := hide hb
  have HF := hide hf
  have HG := hide hg
  have HZ := hide (zz15 a n c f what b m d g x w mn mm mt hf hg ha hb)
  clear ha hb hf hg
  unfold maxLen at mn mm mt
  obtain ⟨T, hT⟩ : ∃ T, what.size = T := ⟨_, rfl⟩
  rw [hT] at mt
  go_enter Try.func4, Try.ntmps4
  go_wp2_with fail
  refine HZ.out.mono ?_
  rintro e w' ⟨⟨r, rfl⟩, rfl⟩
  cases r
  · go_wp2_with fail
    go_ret
    exact ⟨rfl, Below.refl _ _⟩
  · by_cases hn : 4096 < n
    · have d1 : decide ((4096 : Int) < n) = true := by simp; omega
      go_wp2_with fail
      go_ret
      exact ⟨rfl, Below.refl _ _⟩
    · have d1 : decide ((4096 : Int) < n) = false := by simp; omega
      by_cases hm : 4096 < m
      · have d2 : decide ((4096 : Int) < m) = true := by simp; omega
        go_wp2_with fail
        go_ret
        exact ⟨rfl, Below.refl _ _⟩
      · have d2 : decide ((4096 : Int) < m) = false := by simp; omega
        by_cases hw : 1048576 < T
        · have d3 : decide ((1048576 : Int) < T) = true := by simp; omega
          go_wp2_with fail
          go_ret
          exact ⟨rfl, Below.refl _ _⟩
        · have d3 : decide ((1048576 : Int) < T) = false := by simp; omega
          go_wp2_with fail
          refine (bytes9 a n c f w (by omega) HF HA.out).mono ?_
          rintro e w' ⟨⟨r1, rfl, r10, r11⟩, rfl⟩
          go_wp2_with fail
          refine (bytes9 b m d g w (by omega) HG HB.out).mono ?_
          rintro e w' ⟨⟨r2, rfl, r20, r21⟩, rfl⟩
          by_cases hs : 1048576 < r1 + r2 + T
          · have d4 : decide ((1048576 : Int) < r1 + r2 + T) = true := decide_eq_true hs
            go_wp2_with fail
            go_ret
            exact ⟨rfl, Below.refl _ _⟩
          · have d4 : decide ((1048576 : Int) < r1 + r2 + T) = false := decide_eq_false hs
            by_cases hx0 : x < 0
            · have d5 : decide (x < 0) = true := decide_eq_true hx0
              go_wp2_with fail
              go_ret
              exact ⟨rfl, Below.refl _ _⟩
            · have d5 : decide (x < 0) = false := decide_eq_false hx0
              by_cases hx1 : (m : Int) < x
              · have d6 : decide ((m : Int) < x) = true := decide_eq_true hx1
                go_wp2_with fail
                go_ret
                exact ⟨rfl, Below.refl _ _⟩
              · obtain ⟨o, rfl⟩ := Int.eq_ofNat_of_zero_le (show 0 ≤ x by omega)
                have d6 : decide ((m : Int) < o) = false := decide_eq_false hx1
                have hom : o ≤ m := by omega
                have hn4 : n ≤ 4096 := by omega
                have hm4 : m ≤ 4096 := by omega
                clear hx1 hw hm hn mn mm HZ
                go_wp2_with fail
                refine (clone10 a n c f w (by omega) HA.out).mono ?_
                rintro e w1 ⟨⟨a1, c1, rfl, hr1⟩, hb1⟩
                have RW1 := hide hr1
                have BE1 := hide hb1
                have RB1 := hide (HB.out.below hb1)
                clear hr1 hb1
                go_wp2_with fail
                refine (clone10 b m d g w1 (by omega) RB1.out).mono ?_
                rintro e w2 ⟨⟨a2, c2, rfl, hr2⟩, hb2⟩
                have HAP := hide (rw_apart (B' := 0) RW1.out hr2)
                have RW2 := hide (RW1.out.below hb2)
                have RC2 := hide hr2.rd
                have BE2 := hide (below_trans BE1.out hb2)
                clear hr2 hb2 RW1 RB1
                obtain ⟨D, hD⟩ : ∃ D : Hd, D = ⟨n, trimmed f, m, g, o⟩ := ⟨_, rfl⟩
                have HC : Hid (Calls Try.prog 14 #[.slice a1 n c1, .string what, .slice a2 m c2, .int .i64 o] w2 fun e w' =>
                    (∃ gi v base, e = .returned (.tuple #[.slice (some ⟨gi, 0, none⟩) m m, v]) ∧ w'.rowIs gi 3 m (iv .i64 (D.ix n)) ∧ Prob w' base v D.full) ∧ Rw w.heap.size w' a1 9 n (sv D.h) ∧ w2.grownBy w' (a1.map (·.block))) := by
                  subst hD
                  exact zzhead14 ⟨n, trimmed f, m, g, o⟩ a1 a2 c1 c2 w.heap.size f what w2 hn4 hm4 hom rfl HF.out RW2.out RC2.out HAP.out
                have hDC : D.C = g := by rw [hD]
                have HDC := hide hDC
                clear hD hDC
                go_wp2_with fail
                refine HC.out.mono ?_
                rintro e W3 ⟨⟨gi, v, base, rfl, hix, hpr⟩, hh, hgr⟩
                have HIX := hide hix
                have HH := hide hh.rd
                have HCO := hide (RC2.out.grown hgr (fun q hq e => by
                  cases ha1 : a1 with
                  | none => rw [ha1] at e; cases e
                  | some p =>
                    rw [ha1] at e
                    injection e with e
                    exact HAP.out p q ha1 hq e.symm))
                have BE3 := hide (BE2.out.grown hgr BE2.out.size (rw_low RW2.out))
                obtain ⟨av, cv, rfl, _⟩ := hpr.read
                clear hix hpr hh hgr HC RC2 RW2 BE2
                have dm : ((m : Int) != (m : Int)) = false := by simp
                go_wp2_with fail
                go_loopw [11, 12, 13] (fun i _ _ wr => ∃ k q : Nat, k ≤ m ∧ i = .int .i64 k ∧ wr = W3.drewN q) (fun i _ _ _ => m - (intOf i).toNat)
                case atStart => exact ⟨0, 0, Nat.zero_le _, rfl, rfl⟩
                case round =>
                  obtain ⟨k, q, hk, rfl, rfl⟩ := hrel
                  by_cases hlt : k < m
                  · have dk : decide ((k : Int) < m) = true := by simp; omega
                    have cx : W3.cell? ⟨gi, k, none⟩ = some (.int .i64 (D.ix n k)) := HIX.out.cell hlt
                    have k0 : (0 : Int) ≤ (k : Int) := by omega
                    have k1 : (k : Int) < (m : Int) := by omega
                    obtain ⟨x0, x1⟩ := D.ix_range n k
                    have e1 : decide (D.ix n k < -1) = false := by simp; omega
                    have e2 : decide ((n : Int) ≤ D.ix n k) = false := by simp; omega
                    by_cases hneg : D.ix n k < 0
                    · have e3 : decide (D.ix n k < 0) = true := decide_eq_true hneg
                      clear hneg x0 x1
                      go_wp2_with fail
                      go_roundw
                      case rel => exact ⟨k + 1, _, by omega, by go_num, rfl⟩
                      case measure => simp [intOf]; omega
                    · obtain ⟨j, hj⟩ := Int.eq_ofNat_of_zero_le (show 0 ≤ D.ix n k by omega)
                      have e3 : decide ((j : Int) < 0) = false := by simp
                      have e1' : decide ((j : Int) < -1) = false := decide_eq_false (by omega)
                      have e2' : decide ((n : Int) ≤ j) = false := decide_eq_false (by omega)
                      have hjn : j < n := by omega
                      obtain ⟨b5, o5, rfl, l5, c5⟩ := HH.out j hjn
                      obtain ⟨b6, o6, rfl, l6, c6⟩ := HCO.out k hlt
                      have he : (((D.h j).toList == (g k).toList)) = true := by rw [D.ix_reads hj, HDC.out]; simp
                      have HNE : Hid (∀ d, d < k → (D.ix n d == (j : Int)) = false) := fun d hd => by simpa using D.ix_apart hj hd
                      unfold sv at c5 c6
                      rw [hj] at cx
                      have j0 : (0 : Int) ≤ (j : Int) := by omega
                      have j1 : (j : Int) < (n : Int) := by omega
                      clear hj hneg x0 x1 e1 e2
                      go_wp2_with fail
                      go_quiet (fail)
                      go_wp2_with fail
                      go_loopw [13] (fun i wr => ∃ k2 q : Nat, k2 ≤ k ∧ i = .int .i64 k2 ∧ wr = W3.drewN q) (fun i _ => k - (intOf i).toNat)
                      case atStart => exact ⟨0, _, Nat.zero_le _, rfl, by rw [World.drewN_drewN]⟩
                      case round =>
                        obtain ⟨p, q3, hp, rfl, rfl⟩ := hrel
                        by_cases hlt2 : p < k
                        · have dp : decide ((p : Int) < k) = true := by simp; omega
                          have cp : W3.cell? ⟨gi, p, none⟩ = some (.int .i64 (D.ix n p)) := HIX.out.cell (by omega)
                          have hne := HNE.out p hlt2
                          have p0 : (0 : Int) ≤ (p : Int) := by omega
                          have p1 : (p : Int) < (m : Int) := by omega
                          go_wp2_with fail
                          go_roundw
                          case rel => exact ⟨p + 1, _, by omega, by go_num, rfl⟩
                          case measure => simp [intOf]; omega
                        · obtain rfl : p = k := by omega
                          have dp : decide ((p : Int) < p) = false := by simp
                          go_wp2_with fail
                          go_roundw
                          case rel => exact ⟨p + 1, _, by omega, by go_num, rfl⟩
                          case measure => simp [intOf]; omega
                  · obtain rfl : k = m := by omega
                    have dk : decide ((k : Int) < k) = false := by simp
                    go_wp2_with fail
                    go_ret
                    exact ⟨rfl, drewN_below BE3.out _⟩
end Go.Proofs.Qxb6604019a
