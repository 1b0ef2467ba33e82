/-
  THE LAW FnPricebookReadHeaderAcceptsExactlyCompleteHeaders (5), walked. Seat b6604019a.
-/
import Derived.Test.Qxb6604019aWant
namespace Go.Proofs.Qxb6604019a
open Go.RowKit
set_option linter.unusedVariables false

theorem rw_lt {B : Nat} {w : World} {a : Option Addr} {t : TypeId} {n : Nat} {f : Nat → Value} (h : Rw B w a t n f) : ∀ q, a.map (·.block) = some q → q < w.heap.size := by
  intro q hq
  rcases h with ⟨e, _⟩ | ⟨x, _, e, hx⟩
  · rw [e] at hq; cases hq
  · rw [e] at hq
    cases hq
    exact hx.lt
theorem ne_map {a b : Option Addr} (h : ∀ p q, a = some p → b = some q → p.block ≠ q.block) : ∀ q, b = some q → some q.block ≠ a.map (·.block) := by
  intro q hq e
  cases ha : a with
  | none => rw [ha] at e; cases e
  | some p =>
    rw [ha] at e
    injection e with e
    exact h p q ha hq e.symm

theorem rep_no {f : Nat → ByteArray} {n : Nat} (h : rep f n = false) : ∀ k, k < n → ear f k = false := by
  intro k hk
  cases e : ear f k with
  | false => rfl
  | true => rw [rep_true hk e] at h; cases h

set_option maxRecDepth 100000 in
set_option maxHeartbeats 4000000 in
theorem law5 (a b : Option Addr) (n c m d : Nat) (f g : Nat → ByteArray) (what : ByteArray) (x : Int) (w : World) (mn : n ≤ maxLen) (mm : m ≤ maxLen) (mt : what.size ≤ maxLen) (hf : Fit n f) (hg : Fit m g) (ha : Rd w a n (sv f)) (hb : Rd w b m (sv g)) :
    Calls Try.prog 5 #[.slice a n c, .string what, .slice b m d, .int .i64 x] w fun e w' => e = .returned (.bool true) ∧ Below w.heap.size w w' := by
  have HA := hide ha
  have HB := hide hb
  have HF := hide hf
  have HG := hide hg
  have HZ := hide (zz16 a n c f what b m d g x w mn mm mt hf hg ha hb)
  clear ha hb hf hg
  unfold maxLen at mn mm mt
  obtain ⟨T, hT⟩ : ∃ T, what.size = T := ⟨_, rfl⟩
  rw [hT] at mt
  go_enter Try.func5, Try.ntmps5
  go_wp2_with fail
  refine HZ.out.mono ?_
  rintro e w' ⟨⟨r, rfl⟩, rfl⟩
  cases r
  · go_wp2_with fail
    go_ret
    exact ⟨rfl, Below.refl _ _⟩
  · by_cases hn : 4096 < n
    · have d1 : decide ((4096 : Int) < n) = true := by simp; omega
      go_wp2_with fail
      go_ret
      exact ⟨rfl, Below.refl _ _⟩
    · have d1 : decide ((4096 : Int) < n) = false := by simp; omega
      by_cases hm : 4096 < m
      · have d2 : decide ((4096 : Int) < m) = true := by simp; omega
        go_wp2_with fail
        go_ret
        exact ⟨rfl, Below.refl _ _⟩
      · have d2 : decide ((4096 : Int) < m) = false := by simp; omega
        by_cases hw : 1048576 < T
        · have d3 : decide ((1048576 : Int) < T) = true := by simp; omega
          go_wp2_with fail
          go_ret
          exact ⟨rfl, Below.refl _ _⟩
        · have d3 : decide ((1048576 : Int) < T) = false := by simp; omega
          go_wp2_with fail
          refine (bytes9 a n c f w (by omega) HF HA.out).mono ?_
          rintro e w' ⟨⟨r1, rfl, r10, r11⟩, rfl⟩
          go_wp2_with fail
          refine (bytes9 b m d g w (by omega) HG HB.out).mono ?_
          rintro e w' ⟨⟨r2, rfl, r20, r21⟩, rfl⟩
          by_cases hs : 1048576 < r1 + r2 + T
          · have d4 : decide ((1048576 : Int) < r1 + r2 + T) = true := decide_eq_true hs
            go_wp2_with fail
            go_ret
            exact ⟨rfl, Below.refl _ _⟩
          · have d4 : decide ((1048576 : Int) < r1 + r2 + T) = false := decide_eq_false hs
            by_cases hx0 : x < 0
            · have d5 : decide (x < 0) = true := decide_eq_true hx0
              go_wp2_with fail
              go_ret
              exact ⟨rfl, Below.refl _ _⟩
            · have d5 : decide (x < 0) = false := decide_eq_false hx0
              by_cases hx1 : (m : Int) < x
              · have d6 : decide ((m : Int) < x) = true := decide_eq_true hx1
                go_wp2_with fail
                go_ret
                exact ⟨rfl, Below.refl _ _⟩
              · obtain ⟨o, rfl⟩ := Int.eq_ofNat_of_zero_le (show 0 ≤ x by omega)
                have d6 : decide ((m : Int) < o) = false := decide_eq_false hx1
                have hom : o ≤ m := by omega
                have hn4 : n ≤ 4096 := by omega
                have hm4 : m ≤ 4096 := by omega
                obtain ⟨D, hDn, hDm, hDC, hDo, hDh⟩ : ∃ D : Hd, D.n = n ∧ D.m = m ∧ D.C = g ∧ D.opt = o ∧ D.h = trimmed f := ⟨⟨n, trimmed f, m, g, o⟩, rfl, rfl, rfl, rfl, rfl⟩
                have HDH := hide hDh
                subst hDn hDm hDC hDo
                clear hx1 hw hm hn mn mm HZ hDh
                have HRP := hide (repeat17 b D.m d D.C w (by omega) HB.out)
                cases hrep : rep D.C D.m with
                | true =>
                  rw [hrep] at HRP
                  clear hrep
                  go_wp2_with fail
                  refine HRP.out.mono ?_
                  rintro e w0 ⟨rfl, hb0⟩
                  have BE0 := hide hb0
                  clear hb0
                  go_wp2_with fail
                  go_ret
                  exact ⟨rfl, BE0.out⟩
                | false =>
                have HREP := hide (rep_no hrep)
                rw [hrep] at HRP
                clear hrep
                go_wp2_with fail
                refine HRP.out.mono ?_
                rintro e w0 ⟨rfl, hb0⟩
                have BE0 := hide hb0
                have HA0 := hide (HA.out.below hb0)
                have HB0 := hide (HB.out.below hb0)
                have hs0 := hb0.size
                clear hb0 HRP
                go_wp2_with fail
                refine (clone10 a D.n c f w0 (by omega) HA0.out).mono ?_
                rintro e w1 ⟨⟨a1, c1, rfl, hr1⟩, hb1⟩
                have RW1 := hide hr1
                have BE1 := hide (below_trans BE0.out hb1)
                have RB1 := hide (HB0.out.below hb1)
                clear hr1 hb1
                go_wp2_with fail
                refine (clone10 b D.m d D.C w1 (by omega) RB1.out).mono ?_
                rintro e w2 ⟨⟨a2, c2, rfl, hr2⟩, hb2⟩
                have HAP := hide (rw_apart (B' := 0) RW1.out hr2)
                have RW2 := hide (RW1.out.below hb2)
                have RC2 := hide hr2.rd
                have BE2 := hide (below_trans BE1.out hb2)
                clear hr2 hb2 RW1 RB1
                go_wp2_with fail
                refine (clone10 a1 D.n c1 f w2 (by omega) RW2.out.rd).mono ?_
                rintro e w3 ⟨⟨a3, c3, rfl, hr3⟩, hb3⟩
                have RN3 := hide hr3
                have BB3 := hide hb3
                have HAP3 := hide (rw_apart (B' := 0) RW2.out hr3)
                clear hr3 hb3
                go_upto_if 61 with fail
                go_cut [9] (fun v wx => v = .slice a3 D.n c3 ∧ Rw w2.heap.size wx a3 9 D.n (sv D.h) ∧ Below w2.heap.size w2 wx)
                case first =>
                  by_cases hz : D.n = 0
                  · have hz' : decide ((0 : Int) < D.n) = false := by simp; omega
                    go_wp2_with fail
                    go_meet
                    case rel => exact ⟨rfl, RN3.out.congr0 hz _, BB3.out⟩
                  · have hz' : decide ((0 : Int) < D.n) = true := by simp; omega
                    rcases RN3.out with ⟨_, e⟩ | ⟨g3, hg3, rfl, hrow⟩
                    · exact absurd e hz
                    have q0 : w3.cell? ⟨g3, 0, none⟩ = some (.string (f 0)) := hrow.cell (by omega)
                    have q1 : w3.frozen? ⟨g3, 0, none⟩ = false := hrow.frozen 0
                    have hfit := HF.out 0 (by omega)
                    have HROW := hide hrow
                    clear hrow
                    go_wp2_with fail
                    refine (trim11 _ hfit _).mono ?_
                    rintro e w' ⟨rfl, rfl⟩
                    go_wp2_with fail
                    go_meet
                    case rel =>
                      refine ⟨rfl, Or.inr ⟨g3, hg3, rfl, (HROW.out.set 0 _).congr fun i _ => ?_⟩, BB3.out.setCell hg3 _⟩
                      rw [HDH.out]
                      unfold sv trimmed
                      by_cases e : i = 0
                      · rw [if_pos e, if_pos e]
                      · rw [if_neg e, if_neg e]
                case rest =>
                  obtain ⟨rfl, hnm, hbx⟩ := hcut
                  obtain ⟨W4, rfl⟩ : ∃ W4 : World, W4 = wc := ⟨_, rfl⟩
                  have RN4 := hide hnm
                  have RW4 := hide (RW2.out.below hbx)
                  have RC4 := hide (RC2.out.below hbx)
                  have BE4 := hide (below_trans BE2.out hbx)
                  clear hnm hbx RW2 RC2 BE2 RN3 BB3 BE1
                  have HNM := hide RN4.out.rd
                  go_wp2_with fail
                  go_loopw [10, 11] (fun acc i wr => ∃ i' : Nat, i' ≤ D.n ∧ i = .int .i64 i' ∧ acc = .bool (D.none1 i') ∧ Below W4.heap.size W4 wr) (fun _ i _ => D.n - (intOf i).toNat)
                  case atStart => exact ⟨0, Nat.zero_le _, rfl, rfl, Below.refl _ _⟩
                  case round =>
                    obtain ⟨i, hi, rfl, rfl, hbe⟩ := hrel
                    have HBE := hide hbe
                    by_cases hlt : i < D.n
                    · have di : decide ((i : Int) < D.n) = true := by simp; omega
                      have HE := hide (earlier12 a3 D.n c3 i D.h wr (by omega) hlt (HNM.out.below hbe))
                      obtain ⟨b7, o7, rfl, l7, c7⟩ := HNM.out.below hbe i hlt
                      unfold sv at c7
                      have H13 : Hid (Calls Try.prog 13 #[.slice a2 D.m c2, .string (D.h i)] wr fun e w' => e = .returned (.int .i64 (D.col i)) ∧ wr = w') := first13 a2 D.m c2 D.C (D.h i) wr (by omega) (RC4.out.below hbe)
                      have i0 : (0 : Int) ≤ (i : Int) := by omega
                      have i1 : (i : Int) < (D.n : Int) := by omega
                      clear hbe
                      by_cases hneg : D.col i < 0
                      · have dn : decide (D.col i < 0) = true := decide_eq_true hneg
                        have HS := hide (D.none1_bad (i := i) (Or.inl hneg))
                        clear hneg HE
                        go_wp2_with fail
                        refine H13.out.mono ?_
                        rintro e w' ⟨rfl, rfl⟩
                        go_wp2_with fail
                        go_roundw
                        case rel => exact ⟨i + 1, by omega, by go_num, by rw [HS.out], HBE.out⟩
                        case measure => simp [intOf]; omega
                      · have dn : decide (D.col i < 0) = false := decide_eq_false hneg
                        cases he : ear D.h i with
                        | true =>
                          have HS := hide (D.none1_bad (i := i) (Or.inr ⟨by omega, he⟩))
                          rw [he] at HE
                          clear hneg he
                          go_wp2_with fail
                          refine H13.out.mono ?_
                          rintro e w' ⟨rfl, rfl⟩
                          go_wp2_with fail
                          refine HE.out.mono ?_
                          rintro e w8 ⟨rfl, hb8⟩
                          have HB8 := hide (HBE.out.trans (hb8.mono HBE.out.size))
                          clear hb8
                          go_wp2_with fail
                          go_roundw
                          case rel => exact ⟨i + 1, by omega, by go_num, by rw [HS.out], HB8.out⟩
                          case measure => simp [intOf]; omega
                        | false =>
                          have HS := hide (D.none1_ok (i := i) (by omega) he)
                          rw [he] at HE
                          clear hneg he
                          go_wp2_with fail
                          refine H13.out.mono ?_
                          rintro e w' ⟨rfl, rfl⟩
                          go_wp2_with fail
                          refine HE.out.mono ?_
                          rintro e w8 ⟨rfl, hb8⟩
                          have HB8 := hide (HBE.out.trans (hb8.mono HBE.out.size))
                          clear hb8
                          go_wp2_with fail
                          go_roundw
                          case rel => exact ⟨i + 1, by omega, by go_num, by rw [HS.out], HB8.out⟩
                          case measure => simp [intOf]; omega
                    · obtain rfl : i = D.n := by omega
                      have di : decide ((D.n : Int) < D.n) = false := by simp
                      obtain ⟨t, ht⟩ : ∃ t, D.m - D.opt = t := ⟨_, rfl⟩
                      have ht' : (D.m : Int) - D.opt = t := by omega
                      have htm : t ≤ D.m := by omega
                      have HT := hide ht
                      clear ht hbe
                      go_wp2_with fail
                      go_loopw [10, 12] (fun acc i wr => ∃ i' : Nat, i' ≤ t ∧ i = .int .i64 i' ∧ acc = .bool (D.none2 i') ∧ Below W4.heap.size W4 wr) (fun _ i _ => t - (intOf i).toNat)
                      case atStart => exact ⟨0, Nat.zero_le _, rfl, rfl, HBE.out⟩
                      case round =>
                        obtain ⟨i, hi3, rfl, rfl, hbe⟩ := hrel
                        have HBE := hide hbe
                        by_cases hlt2 : i < t
                        · have di2 : decide ((i : Int) < t) = true := by simp; omega
                          have him : i < D.m := by omega
                          have HX := hide (D.ix_new_name him (HREP.out i him) D.n)
                          have H13 : Hid (Calls Try.prog 13 #[.slice a3 D.n c3, .string (D.C i)] wr fun e w' => e = .returned (.int .i64 (D.ix D.n i)) ∧ wr = w') := by
                            have h := first13 a3 D.n c3 D.h (D.C i) wr (by omega) (HNM.out.below hbe)
                            rw [HX.out] at h
                            exact h
                          obtain ⟨b7, o7, rfl, l7, c7⟩ := RC4.out.below hbe i him
                          unfold sv at c7
                          have i0 : (0 : Int) ≤ (i : Int) := by omega
                          have i1 : (i : Int) < (D.m : Int) := by omega
                          clear hbe
                          by_cases hneg : D.ix D.n i < 0
                          · have dn : decide (D.ix D.n i < 0) = true := decide_eq_true hneg
                            have HS := hide (D.none2_bad hneg)
                            clear hneg
                            go_wp2_with fail
                            refine H13.out.mono ?_
                            rintro e w' ⟨rfl, rfl⟩
                            go_wp2_with fail
                            go_roundw
                            case rel => exact ⟨i + 1, by omega, by go_num, by rw [HS.out], HBE.out⟩
                            case measure => simp [intOf]; omega
                          · have dn : decide (D.ix D.n i < 0) = false := decide_eq_false hneg
                            have HS := hide (D.none2_ok (c := i) (by omega))
                            clear hneg
                            go_wp2_with fail
                            refine H13.out.mono ?_
                            rintro e w' ⟨rfl, rfl⟩
                            go_wp2_with fail
                            go_roundw
                            case rel => exact ⟨i + 1, by omega, by go_num, by rw [HS.out], HBE.out⟩
                            case measure => simp [intOf]; omega
                        · obtain rfl : i = t := by omega
                          have di2 : decide ((i : Int) < i) = false := by simp
                          obtain ⟨W5, rfl⟩ : ∃ W5 : World, W5 = wr := ⟨_, rfl⟩
                          have RW5 := hide (RW4.out.below HBE.out)
                          have RC5 := hide (RC4.out.below HBE.out)
                          have BE5 := hide (below_trans BE4.out HBE.out)
                          clear hbe
                          have HC := hide (zzhead14 D a1 a2 c1 c2 w0.heap.size f what W5 (by omega) (by omega) (by omega) HDH.out HF.out RW5.out RC5.out HAP.out)
                          go_wp2_with fail
                          refine HC.out.mono ?_
                          rintro e W6 ⟨⟨gi, v, base, rfl, hix, hpr⟩, hh, hgr⟩
                          have BE6 := hide (BE5.out.grown hgr BE5.out.size (fun q hq => by have := rw_low RW5.out q hq; omega))
                          obtain ⟨av, cv, rfl, hnil, hprc⟩ := hpr.read
                          clear hix hpr hh hgr HC RC5 RW5 BE5 hnil hprc
                          obtain ⟨Lf, hLf⟩ : ∃ Lf, D.full.length = Lf := ⟨_, rfl⟩
                          rw [hLf]
                          have hms : D.ms i = D.full := by rw [← HT.out]; rfl
                          cases hv : D.none2 i with
                          | true =>
                            have hL0 : Lf = 0 := by
                              unfold Hd.none2 at hv
                              rw [hms] at hv
                              rw [← hLf, List.isEmpty_iff.1 hv]
                              rfl
                            clear hLf hms hv
                            subst hL0
                            go_wp2_with fail
                            go_ret
                            exact ⟨rfl, BE6.out⟩
                          | false =>
                            have hL0 : ((Lf : Int) == 0) = false := by
                              unfold Hd.none2 at hv
                              rw [hms] at hv
                              have : Lf ≠ 0 := by
                                intro e
                                rw [List.eq_nil_of_length_eq_zero (hLf.trans e)] at hv
                                cases hv
                              simpa using this
                            clear hLf hms hv
                            go_wp2_with fail
                            go_ret
                            exact ⟨rfl, BE6.out⟩
end Go.Proofs.Qxb6604019a
