/-
  THE LAW FnPricebookReadHeaderMatchesModel (3), walked. Seat b6604019a.
-/
import Derived.Test.Qxb6604019aWant
import Derived.Laws.Cover3
namespace Go.Proofs.Qxb6604019a
open Go.RowKit
set_option linter.unusedVariables false

theorem rw_lt {B : Nat} {w : World} {a : Option Addr} {t : TypeId} {n : Nat} {f : Nat → Value} (h : Rw B w a t n f) : ∀ q, a.map (·.block) = some q → q < w.heap.size := by
  intro q hq
  rcases h with ⟨e, _⟩ | ⟨x, _, e, hx⟩
  · rw [e] at hq; cases hq
  · rw [e] at hq
    cases hq
    exact hx.lt
theorem ne_map {a b : Option Addr} (h : ∀ p q, a = some p → b = some q → p.block ≠ q.block) : ∀ q, b = some q → some q.block ≠ a.map (·.block) := by
  intro q hq e
  cases ha : a with
  | none => rw [ha] at e; cases e
  | some p =>
    rw [ha] at e
    injection e with e
    exact h p q ha hq e.symm

set_option maxRecDepth 100000 in
set_option maxHeartbeats 4000000 in
theorem law3 (a b : Option Addr) (n c m d : Nat) (f g : Nat → ByteArray) (what : ByteArray) (x : Int) (w : World) (mn : n ≤ maxLen) (mm : m ≤ maxLen) (mt : what.size ≤ maxLen) (hf : Fit n f) (hg : Fit m g) (ha : Rd w a n (sv f)) (hb : Rd w b m (sv g)) :
    Calls Try.prog 3 #[.slice a n c, .string what, .slice b m d, .int .i64 x] w fun e w' => e = .returned (.bool true) ∧ Below w.heap.size w w' := by
  have HA := hide ha
  have HB := hide hb
  have HF := hide hf
  have HG := hide hg
  have HZ := hide (zz8 a n c f what b m d g x w mn mm mt hf hg ha hb)
  clear ha hb hf hg
  unfold maxLen at mn mm mt
  obtain ⟨T, hT⟩ : ∃ T, what.size = T := ⟨_, rfl⟩
  rw [hT] at mt
  go_enter Try.func3, Try.ntmps3
  go_wp2_with fail
  refine HZ.out.mono ?_
  rintro e w' ⟨⟨r, rfl⟩, rfl⟩
  cases r
  · go_wp2_with fail
    go_ret
    exact ⟨rfl, Below.refl _ _⟩
  · by_cases hn : 4096 < n
    · have d1 : decide ((4096 : Int) < n) = true := by simp; omega
      go_wp2_with fail
      go_ret
      exact ⟨rfl, Below.refl _ _⟩
    · have d1 : decide ((4096 : Int) < n) = false := by simp; omega
      by_cases hm : 4096 < m
      · have d2 : decide ((4096 : Int) < m) = true := by simp; omega
        go_wp2_with fail
        go_ret
        exact ⟨rfl, Below.refl _ _⟩
      · have d2 : decide ((4096 : Int) < m) = false := by simp; omega
        by_cases hw : 1048576 < T
        · have d3 : decide ((1048576 : Int) < T) = true := by simp; omega
          go_wp2_with fail
          go_ret
          exact ⟨rfl, Below.refl _ _⟩
        · have d3 : decide ((1048576 : Int) < T) = false := by simp; omega
          go_wp2_with fail
          refine (bytes9 a n c f w (by omega) HF HA.out).mono ?_
          rintro e w' ⟨⟨r1, rfl, r10, r11⟩, rfl⟩
          go_wp2_with fail
          refine (bytes9 b m d g w (by omega) HG HB.out).mono ?_
          rintro e w' ⟨⟨r2, rfl, r20, r21⟩, rfl⟩
          by_cases hs : 1048576 < r1 + r2 + T
          · have d4 : decide ((1048576 : Int) < r1 + r2 + T) = true := decide_eq_true hs
            go_wp2_with fail
            go_ret
            exact ⟨rfl, Below.refl _ _⟩
          · have d4 : decide ((1048576 : Int) < r1 + r2 + T) = false := decide_eq_false hs
            by_cases hx0 : x < 0
            · have d5 : decide (x < 0) = true := decide_eq_true hx0
              go_wp2_with fail
              go_ret
              exact ⟨rfl, Below.refl _ _⟩
            · have d5 : decide (x < 0) = false := decide_eq_false hx0
              by_cases hx1 : (m : Int) < x
              · have d6 : decide ((m : Int) < x) = true := decide_eq_true hx1
                go_wp2_with fail
                go_ret
                exact ⟨rfl, Below.refl _ _⟩
              · obtain ⟨o, rfl⟩ := Int.eq_ofNat_of_zero_le (show 0 ≤ x by omega)
                have d6 : decide ((m : Int) < o) = false := decide_eq_false hx1
                have hom : o ≤ m := by omega
                have hn4 : n ≤ 4096 := by omega
                have hm4 : m ≤ 4096 := by omega
                obtain ⟨D, hDn, hDm, hDC, hDo, hDh⟩ : ∃ D : Hd, D.n = n ∧ D.m = m ∧ D.C = g ∧ D.opt = o ∧ D.h = trimmed f := ⟨⟨n, trimmed f, m, g, o⟩, rfl, rfl, rfl, rfl, rfl⟩
                have HDH := hide hDh
                subst hDn hDm hDC hDo
                clear hx1 hw hm hn mn mm HZ hDh
                go_wp2_with fail
                refine (clone10 a D.n c f w (by omega) HA.out).mono ?_
                rintro e w1 ⟨⟨a1, c1, rfl, hr1⟩, hb1⟩
                have RW1 := hide hr1
                have BE1 := hide hb1
                have RB1 := hide (HB.out.below hb1)
                clear hr1 hb1
                go_wp2_with fail
                refine (clone10 b D.m d D.C w1 (by omega) RB1.out).mono ?_
                rintro e w2 ⟨⟨a2, c2, rfl, hr2⟩, hb2⟩
                have HAP := hide (rw_apart (B' := 0) RW1.out hr2)
                have RW2 := hide (RW1.out.below hb2)
                have RC2 := hide hr2.rd
                have BE2 := hide (below_trans BE1.out hb2)
                clear hr2 hb2 RW1 RB1
                go_wp2_with fail
                refine (clone10 a1 D.n c1 f w2 (by omega) RW2.out.rd).mono ?_
                rintro e w3 ⟨⟨a3, c3, rfl, hr3⟩, hb3⟩
                have RN3 := hide hr3
                have BB3 := hide hb3
                have HAP3 := hide (rw_apart (B' := 0) RW2.out hr3)
                clear hr3 hb3
                go_upto_if 64 with fail
                go_cut [9] (fun v wx => v = .slice a3 D.n c3 ∧ Rw w2.heap.size wx a3 9 D.n (sv D.h) ∧ Below w2.heap.size w2 wx)
                case first =>
                  by_cases hz : D.n = 0
                  · have hz' : decide ((0 : Int) < D.n) = false := by simp; omega
                    go_wp2_with fail
                    go_meet
                    case rel => exact ⟨rfl, RN3.out.congr0 hz _, BB3.out⟩
                  · have hz' : decide ((0 : Int) < D.n) = true := by simp; omega
                    rcases RN3.out with ⟨_, e⟩ | ⟨g3, hg3, rfl, hrow⟩
                    · exact absurd e hz
                    have q0 : w3.cell? ⟨g3, 0, none⟩ = some (.string (f 0)) := hrow.cell (by omega)
                    have q1 : w3.frozen? ⟨g3, 0, none⟩ = false := hrow.frozen 0
                    have hfit := HF.out 0 (by omega)
                    have HROW := hide hrow
                    clear hrow
                    go_wp2_with fail
                    refine (trim11 _ hfit _).mono ?_
                    rintro e w' ⟨rfl, rfl⟩
                    go_wp2_with fail
                    go_meet
                    case rel =>
                      refine ⟨rfl, Or.inr ⟨g3, hg3, rfl, (HROW.out.set 0 _).congr fun i _ => ?_⟩, BB3.out.setCell hg3 _⟩
                      rw [HDH.out]
                      unfold sv trimmed
                      by_cases e : i = 0
                      · rw [if_pos e, if_pos e]
                      · rw [if_neg e, if_neg e]
                case rest =>
                  obtain ⟨rfl, hnm, hbx⟩ := hcut
                  obtain ⟨W4, rfl⟩ : ∃ W4 : World, W4 = wc := ⟨_, rfl⟩
                  have RN4 := hide hnm
                  have RW4 := hide (RW2.out.below hbx)
                  have RC4 := hide (RC2.out.below hbx)
                  have BE4 := hide (below_trans BE2.out hbx)
                  clear hnm hbx RW2 RC2 BE2 RN3 BB3 BE1
                  have hmk := run_make_row' (P := Try.prog) 27 3 (.int .i64 0) 8 Try.underlying27 Try.info3 rfl .i64 .i64 D.m (by omega) (by omega)
                  go_wp2_with fail
                  clear hmk
                  go_loopw [11] (fun i wr => ∃ k : Nat, k ≤ D.m ∧ i = .int .i64 k ∧ wr.rowIs W4.heap.size 3 D.m (fun j => if j < k then iv .i64 (D.ix D.n) j else .int .i64 0) ∧ Below W4.heap.size W4 wr) (fun i _ => D.m - (intOf i).toNat)
                  case atStart => exact ⟨0, Nat.zero_le _, rfl, fill_start W4 _ D.m 3 _, (Below.refl _ _).alloc (Nat.le_refl _) _⟩
                  case round =>
                    obtain ⟨k, hk, rfl, hrow, hbel⟩ := hrel
                    have HR := hide hrow
                    have HBW := hide hbel
                    by_cases hlt : k < D.m
                    · have dk : decide ((k : Int) < D.m) = true := by simp; omega
                      have hfr : wr.frozen? ⟨W4.heap.size, k, none⟩ = false := hrow.frozen k
                      obtain ⟨v0, hce⟩ : ∃ v, wr.cell? ⟨W4.heap.size, k, none⟩ = some v := ⟨_, hrow.cell hlt⟩
                      have k0 : (0 : Int) ≤ (k : Int) := by omega
                      have k1 : (k : Int) < (D.m : Int) := by omega
                      have hwl := hrow.lt
                      have HB1 := hide (hbel.setCell (p := ⟨W4.heap.size, k, none⟩) (Nat.le_refl _) (.int .i64 (-1)))
                      have HE := hide (earlier12 a2 D.m c2 k D.C (wr.setCell ⟨W4.heap.size, k, none⟩ (.int .i64 (-1))) (by omega) hlt (RC4.out.below HB1.out))
                      clear hrow hbel
                      cases he : ear D.C k with
                      | true =>
                        have HX : Hid (iv .i64 (D.ix D.n) k = .int .i64 (-1)) := by rw [Hid]; unfold iv; rw [D.ix_ear he]
                        rw [he] at HE
                        clear he
                        go_wp2_with fail
                        refine HE.out.mono ?_
                        rintro e w5 ⟨rfl, hb5⟩
                        have R5 : Hid (w5.rowIs W4.heap.size 3 D.m (fun j => if j < k + 1 then iv .i64 (D.ix D.n) j else .int .i64 0)) := by
                          have h := fill_step (f := iv .i64 (D.ix D.n)) HR.out
                          rw [HX.out] at h
                          exact h.of_block (hb5.block _ (by simpa [World.setCell] using hwl))
                        have HB5 := hide (HB1.out.trans (hb5.mono HB1.out.size))
                        clear hb5
                        go_wp2_with fail
                        go_roundw
                        case rel => exact ⟨k + 1, by omega, by go_num, R5.out, HB5.out⟩
                        case measure => simp [intOf]; omega
                      | false =>
                        have HX := hide (D.ix_new_name hlt he D.n)
                        rw [he] at HE
                        clear he
                        go_wp2_with fail
                        refine HE.out.mono ?_
                        rintro e w5 ⟨rfl, hb5⟩
                        have R5 := hide ((HR.out.set k (.int .i64 (-1))).of_block (hb5.block _ (by simpa [World.setCell] using hwl)))
                        have HB5 := hide (HB1.out.trans (hb5.mono HB1.out.size))
                        obtain ⟨b6, o6, rfl, l6, c6⟩ := RC4.out.below HB5.out k hlt
                        unfold sv at c6
                        have H13 : Hid (Calls Try.prog 13 #[.slice a3 D.n c3, .string (D.C k)] w5 fun e w' => e = .returned (.int .i64 (D.ix D.n k)) ∧ w5 = w') := by
                          have h := first13 a3 D.n c3 D.h (D.C k) w5 (by omega) (RN4.out.rd.below HB5.out)
                          rw [HX.out] at h
                          exact h
                        have f5 : w5.frozen? ⟨W4.heap.size, k, none⟩ = false := R5.out.frozen k
                        obtain ⟨v5, e5⟩ : ∃ v, w5.cell? ⟨W4.heap.size, k, none⟩ = some v := ⟨_, R5.out.cell hlt⟩
                        clear hb5
                        go_wp2_with fail
                        refine H13.out.mono ?_
                        rintro e w' ⟨rfl, rfl⟩
                        go_wp2_with fail
                        go_roundw
                        case rel =>
                          refine ⟨k + 1, by omega, by go_num, (R5.out.set k _).congr (fun j hj => ?_), HB5.out.setCell (Nat.le_refl _) _⟩
                          by_cases e : j = k
                          · subst e; simp [iv]
                          · by_cases l : j < k
                            · simp [e, l, Nat.lt_succ_of_lt l]
                            · have : ¬ j < k + 1 := by omega
                              simp [e, l, this]
                        case measure => simp [intOf]; omega
                    · obtain rfl : k = D.m := by omega
                      have dk : decide ((D.m : Int) < D.m) = false := by simp
                      have HWT := hide (fill_end HR.out)
                      obtain ⟨W5, rfl⟩ : ∃ W5 : World, W5 = wr := ⟨_, rfl⟩
                      have RN5 := hide (RN4.out.below HBW.out)
                      have RW5 := hide (RW4.out.below HBW.out)
                      have RC5 := hide (RC4.out.below HBW.out)
                      have BE5 := hide (below_trans BE4.out HBW.out)
                      have HLT := hide (rw_lt RW4.out)
                      clear hrow hbel HR RN4 RW4 RC4 BE4 HBW
                      have HC := hide (zzhead14 D a1 a2 c1 c2 w.heap.size f what W5 (by omega) (by omega) (by omega) HDH.out HF.out RW5.out RC5.out HAP.out)
                      go_wp2_with fail
                      refine HC.out.mono ?_
                      rintro e W6 ⟨⟨gi, v, base, rfl, hix, hpr⟩, hh, hgr⟩
                      have HIX := hide hix
                      have HH := hide hh.rd
                      have HCO := hide (RC5.out.grown hgr (ne_map HAP.out))
                      have HNM := hide (RN5.out.rd.grown hgr (ne_map HAP3.out))
                      have HWT6 := hide (HWT.out.of_block (hgr.block _ HWT.out.lt (fun e => Nat.lt_irrefl _ (HLT.out _ e.symm))))
                      have BE6 := hide (BE5.out.grown hgr BE5.out.size (rw_low RW5.out))
                      obtain ⟨av, cv, rfl, hnil, hprc⟩ := hpr.read
                      have HNIL := hide hnil
                      have HPRC := hide hprc
                      clear hix hpr hh hgr HC RC5 RW5 RN5 HWT BE5 HAP HAP3 HLT hnil hprc
                      have dm : ((D.m : Int) != (D.m : Int)) = false := by simp
                      obtain ⟨Lf, hLf⟩ : ∃ Lf, D.full.length = Lf := ⟨_, rfl⟩
                      have HLF := hide hLf
                      rw [hLf]
                      rw [hLf] at HPRC
                      have hLl : Lf ≤ 8192 := by have := D.ms_len (D.m - D.opt); rw [← hLf]; unfold Hd.full; omega
                      clear hLf
                      go_wp2_with fail
                      go_loopw [14] (fun i wr => ∃ k q : Nat, k ≤ D.m ∧ i = .int .i64 k ∧ wr = W6.drewN q) (fun i _ => D.m - (intOf i).toNat)
                      case atStart => exact ⟨0, 0, Nat.zero_le _, rfl, rfl⟩
                      case round =>
                        obtain ⟨k, q, hk, rfl, rfl⟩ := hrel
                        by_cases hlt : k < D.m
                        · have dk : decide ((k : Int) < D.m) = true := by simp; omega
                          have cx : W6.cell? ⟨gi, k, none⟩ = some (.int .i64 (D.ix D.n k)) := HIX.out.cell hlt
                          have cy : W6.cell? ⟨W4.heap.size, k, none⟩ = some (.int .i64 (D.ix D.n k)) := HWT6.out.cell hlt
                          have k0 : (0 : Int) ≤ (k : Int) := by omega
                          have k1 : (k : Int) < (D.m : Int) := by omega
                          have xb : (D.ix D.n k != D.ix D.n k) = false := by simp
                          go_wp2_with fail
                          go_quiet (fail)
                          go_wp2_with fail
                          go_roundw
                          case rel => exact ⟨k + 1, _, by omega, by go_num, by first | rfl | rw [World.drewN_drewN]⟩
                          case measure => simp [intOf]; omega
                        · obtain rfl : k = D.m := by omega
                          have dk : decide ((D.m : Int) < D.m) = false := by simp
                          have HB0 := hide (drewN_below (Below.refl W6.heap.size W6) q)
                          go_wp2_with fail
                          go_loopw [15, 16, 17] (fun kk i _ wr => ∃ i' q : Nat, i' ≤ D.n ∧ i = .int .i64 i' ∧ kk = .int .i64 q ∧ Hid ((D.pr i').length = q) ∧ q ≤ i' ∧ Below W6.heap.size W6 wr) (fun _ i _ _ => D.n - (intOf i).toNat)
                          case atStart => exact ⟨0, 0, Nat.zero_le _, rfl, rfl, rfl, Nat.le_refl _, HB0.out⟩
                          case round =>
                            obtain ⟨i, q2, hi, rfl, rfl, HQ, hqi, hbe⟩ := hrel
                            have HBE := hide hbe
                            by_cases hlt : i < D.n
                            · have di : decide ((i : Int) < D.n) = true := by simp; omega
                              have HE := hide (earlier12 a3 D.n c3 i D.h wr (by omega) hlt (HNM.out.below hbe))
                              obtain ⟨b7, o7, rfl, l7, c7⟩ := HNM.out.below hbe i hlt
                              unfold sv at c7
                              have H13 : Hid (Calls Try.prog 13 #[.slice a2 D.m c2, .string (D.h i)] wr fun e w' => e = .returned (.int .i64 (D.col i)) ∧ wr = w') := first13 a2 D.m c2 D.C (D.h i) wr (by omega) (HCO.out.below hbe)
                              have i0 : (0 : Int) ≤ (i : Int) := by omega
                              have i1 : (i : Int) < (D.n : Int) := by omega
                              clear hbe
                              by_cases hneg : D.col i < 0
                              · have dn : decide (D.col i < 0) = true := decide_eq_true hneg
                                have HS := hide (D.pr_unk hneg)
                                obtain ⟨g1, g2⟩ := D.pr_get hlt HS.out
                                rw [HQ.out] at g1 g2
                                rw [HLF.out] at g1
                                obtain ⟨gp, ep, lp, p1, p2⟩ := HPRC.out q2 g1
                                subst ep
                                have p1' : wr.cell? ⟨gp, q2 * 2, none⟩ = some (.int .i64 1) := by rw [HBE.out.cell lp]; exact p1
                                have p2' : wr.cell? ⟨gp, q2 * 2 + 1, none⟩ = some (.string ⟨#[85, 78, 75, 78, 79, 87, 78, 95, 67, 79, 76, 85, 77, 78]⟩) := by rw [HBE.out.cell lp, p2, g2]; rfl
                                have dq : decide ((Lf : Int) ≤ q2) = false := decide_eq_false (by omega)
                                have u0 : (0 : Int) ≤ (q2 : Int) := by omega
                                have u1 : (q2 : Int) < (Lf : Int) := by omega
                                clear p1 p2 g1 g2
                                clear hneg HE
                                go_wp2_with fail
                                refine H13.out.mono ?_
                                rintro e w' ⟨rfl, rfl⟩
                                go_wp2_with fail
                                go_roundw
                                case rel => exact ⟨i + 1, q2 + 1, by omega, by go_num, by go_num, by rw [Hid, HS.out, List.length_append, HQ.out]; rfl, by omega, HBE.out⟩
                                case measure => simp [intOf]; omega
                              · have dn : decide (D.col i < 0) = false := decide_eq_false hneg
                                cases he : ear D.h i with
                                | true =>
                                  have HS := hide (D.pr_ear (i := i) (by omega) he)
                                  rw [he] at HE
                                  obtain ⟨g1, g2⟩ := D.pr_get hlt HS.out
                                  rw [HQ.out] at g1 g2
                                  rw [HLF.out] at g1
                                  obtain ⟨gp, ep, lp, p1, p2⟩ := HPRC.out q2 g1
                                  subst ep
                                  have p1' : wr.cell? ⟨gp, q2 * 2, none⟩ = some (.int .i64 1) := by rw [HBE.out.cell lp]; exact p1
                                  have p2' : wr.cell? ⟨gp, q2 * 2 + 1, none⟩ = some (.string ⟨#[68, 85, 80, 76, 73, 67, 65, 84, 69, 95, 67, 79, 76, 85, 77, 78]⟩) := by rw [HBE.out.cell lp, p2, g2]; rfl
                                  have dq : decide ((Lf : Int) ≤ q2) = false := decide_eq_false (by omega)
                                  have u0 : (0 : Int) ≤ (q2 : Int) := by omega
                                  have u1 : (q2 : Int) < (Lf : Int) := by omega
                                  clear p1 p2 g1 g2
                                  have HP1 := hide p1'
                                  have HP2 := hide p2'
                                  clear hneg he p1' p2'
                                  go_wp2_with fail
                                  refine H13.out.mono ?_
                                  rintro e w' ⟨rfl, rfl⟩
                                  go_wp2_with fail
                                  refine HE.out.mono ?_
                                  rintro e w8 ⟨rfl, hb8⟩
                                  have lpw : gp < wr.heap.size := Nat.lt_of_lt_of_le lp HBE.out.size
                                  have p3 : w8.cell? ⟨gp, q2 * 2, none⟩ = some (.int .i64 1) := by rw [hb8.cell lpw]; exact HP1.out
                                  have p4 : w8.cell? ⟨gp, q2 * 2 + 1, none⟩ = some (.string ⟨#[68, 85, 80, 76, 73, 67, 65, 84, 69, 95, 67, 79, 76, 85, 77, 78]⟩) := by rw [hb8.cell lpw]; exact HP2.out
                                  have HB8 := hide (HBE.out.trans (hb8.mono HBE.out.size))
                                  clear hb8
                                  go_wp2_with fail
                                  go_roundw
                                  case rel => exact ⟨i + 1, q2 + 1, by omega, by go_num, by go_num, by rw [Hid, HS.out, List.length_append, HQ.out]; rfl, by omega, HB8.out⟩
                                  case measure => simp [intOf]; omega
                                | false =>
                                  have HS := hide (D.pr_not (i := i) (by omega) he)
                                  rw [he] at HE
                                  clear hneg he
                                  go_wp2_with fail
                                  refine H13.out.mono ?_
                                  rintro e w' ⟨rfl, rfl⟩
                                  go_wp2_with fail
                                  refine HE.out.mono ?_
                                  rintro e w8 ⟨rfl, hb8⟩
                                  have HB8 := hide (HBE.out.trans (hb8.mono HBE.out.size))
                                  clear hb8
                                  go_wp2_with fail
                                  go_roundw
                                  case rel => exact ⟨i + 1, q2, by omega, by go_num, rfl, by rw [Hid, HS.out]; exact HQ.out, by omega, HB8.out⟩
                                  case measure => simp [intOf]; omega
                            · obtain rfl : i = D.n := by omega
                              have di : decide ((D.n : Int) < D.n) = false := by simp
                              obtain ⟨t, ht⟩ : ∃ t, D.m - D.opt = t := ⟨_, rfl⟩
                              have ht' : (D.m : Int) - D.opt = t := by omega
                              have htm : t ≤ D.m := by omega
                              have HT := hide ht
                              clear ht hbe
                              go_wp2_with fail
                              go_loopw [15, 18] (fun kk i wr => ∃ i' q : Nat, i' ≤ t ∧ i = .int .i64 i' ∧ kk = .int .i64 q ∧ Hid ((D.ms i').length = q) ∧ q ≤ D.n + i' ∧ Below W6.heap.size W6 wr) (fun _ i _ => t - (intOf i).toNat)
                              case atStart => exact ⟨0, _, Nat.zero_le _, rfl, rfl, HQ.out, by omega, HBE.out⟩
                              case round =>
                                obtain ⟨i, q3, hi3, rfl, rfl, HQ, hqi3, hbe⟩ := hrel
                                have HBE := hide hbe
                                clear hbe
                                by_cases hlt2 : i < t
                                · have di2 : decide ((i : Int) < t) = true := by simp; omega
                                  have him : i < D.m := by omega
                                  have cw : wr.cell? ⟨W4.heap.size, i, none⟩ = some (.int .i64 (D.ix D.n i)) := by rw [HBE.out.cell HWT6.out.lt]; exact HWT6.out.cell him
                                  have i0 : (0 : Int) ≤ (i : Int) := by omega
                                  have i1 : (i : Int) < (D.m : Int) := by omega
                                  by_cases hneg : D.ix D.n i < 0
                                  · have dn : decide (D.ix D.n i < 0) = true := decide_eq_true hneg
                                    have HS := hide (D.ms_mis hneg)
                                    obtain ⟨g1, g2⟩ := D.ms_get (c := i) (by rw [HT.out]; exact hlt2) hneg
                                    rw [HQ.out] at g1 g2
                                    rw [HLF.out] at g1
                                    obtain ⟨gp, ep, lp, p1, p2⟩ := HPRC.out q3 g1
                                    subst ep
                                    have p1' : wr.cell? ⟨gp, q3 * 2, none⟩ = some (.int .i64 1) := by rw [HBE.out.cell lp]; exact p1
                                    have p2' : wr.cell? ⟨gp, q3 * 2 + 1, none⟩ = some (.string ⟨#[77, 73, 83, 83, 73, 78, 71, 95, 67, 79, 76, 85, 77, 78]⟩) := by rw [HBE.out.cell lp, p2, g2]; rfl
                                    have dq : decide ((Lf : Int) ≤ q3) = false := decide_eq_false (by omega)
                                    have u0 : (0 : Int) ≤ (q3 : Int) := by omega
                                    have u1 : (q3 : Int) < (Lf : Int) := by omega
                                    clear p1 p2 g1 g2
                                    clear hneg
                                    go_wp2_with fail
                                    go_roundw
                                    case rel => exact ⟨i + 1, q3 + 1, by omega, by go_num, by go_num, by rw [Hid, HS.out, List.length_append, HQ.out]; rfl, by omega, HBE.out⟩
                                    case measure => simp [intOf]; omega
                                  · have dn : decide (D.ix D.n i < 0) = false := decide_eq_false hneg
                                    have HS := hide (D.ms_ok (c := i) (by omega))
                                    clear hneg
                                    go_wp2_with fail
                                    go_roundw
                                    case rel => exact ⟨i + 1, q3, by omega, by go_num, rfl, by rw [Hid, HS.out]; exact HQ.out, by omega, HBE.out⟩
                                    case measure => simp [intOf]; omega
                                · obtain rfl : i = t := by omega
                                  have di2 : decide ((i : Int) < i) = false := by simp
                                  have hqL : q3 = Lf := by
                                    rw [← HQ.out, ← HLF.out, ← HT.out]
                                    rfl
                                  subst hqL
                                  have dL : ((q3 : Int) != (q3 : Int)) = false := by simp
                                  have dN : ((D.n : Int) != (D.n : Int)) = false := by simp
                                  by_cases hL0 : q3 = 0
                                  · have hav : av = none := HNIL.out (List.eq_nil_of_length_eq_zero (HLF.out.trans hL0))
                                    subst hav
                                    clear HQ HLF HPRC
                                    subst hL0
                                    have hnn := fun w => run_neq_slice_nil (P := Try.prog) w 30 35 none 0 cv Try.underlying30
                                    go_wp2_with fail
                                    go_loopw [19] (fun i wr => ∃ k : Nat, k ≤ D.n ∧ i = .int .i64 k ∧ Below W6.heap.size W6 wr) (fun i _ => D.n - (intOf i).toNat)
                                    case atStart => exact ⟨0, Nat.zero_le _, rfl, HBE.out⟩
                                    case round =>
                                      obtain ⟨k, hk, rfl, hbe2⟩ := hrel
                                      have HBE2 := hide hbe2
                                      by_cases hlt3 : k < D.n
                                      · have dk : decide ((k : Int) < D.n) = true := by simp; omega
                                        obtain ⟨b8, o8, rfl, l8, c8⟩ := HH.out.below hbe2 k hlt3
                                        obtain ⟨b9, o9, rfl, l9, c9⟩ := HNM.out.below hbe2 k hlt3
                                        unfold sv at c8 c9
                                        have k0 : (0 : Int) ≤ (k : Int) := by omega
                                        have k1 : (k : Int) < (D.n : Int) := by omega
                                        have hse : ((D.h k).toList == (D.h k).toList) = true := by simp
                                        clear hbe2
                                        go_wp2_with fail
                                        go_quiet (fail)
                                        go_wp2_with fail
                                        go_roundw
                                        case rel => exact ⟨k + 1, by omega, by go_num, drewN_below HBE2.out _⟩
                                        case measure => simp [intOf]; omega
                                      · obtain rfl : k = D.n := by omega
                                        have dk : decide ((D.n : Int) < D.n) = false := by simp
                                        clear hbe2
                                        go_wp2_with fail
                                        go_ret
                                        exact ⟨rfl, BE6.out.trans (HBE2.out.mono BE6.out.size)⟩
                                  · have hL0' : ((q3 : Int) == 0) = false := by simpa using hL0
                                    go_wp2_with fail
                                    go_loopw [19] (fun i wr => ∃ k : Nat, k ≤ D.n ∧ i = .int .i64 k ∧ Below W6.heap.size W6 wr) (fun i _ => D.n - (intOf i).toNat)
                                    case atStart => exact ⟨0, Nat.zero_le _, rfl, HBE.out⟩
                                    case round =>
                                      obtain ⟨k, hk, rfl, hbe2⟩ := hrel
                                      have HBE2 := hide hbe2
                                      by_cases hlt3 : k < D.n
                                      · have dk : decide ((k : Int) < D.n) = true := by simp; omega
                                        obtain ⟨b8, o8, rfl, l8, c8⟩ := HH.out.below hbe2 k hlt3
                                        obtain ⟨b9, o9, rfl, l9, c9⟩ := HNM.out.below hbe2 k hlt3
                                        unfold sv at c8 c9
                                        have k0 : (0 : Int) ≤ (k : Int) := by omega
                                        have k1 : (k : Int) < (D.n : Int) := by omega
                                        have hse : ((D.h k).toList == (D.h k).toList) = true := by simp
                                        clear hbe2
                                        go_wp2_with fail
                                        go_quiet (fail)
                                        go_wp2_with fail
                                        go_roundw
                                        case rel => exact ⟨k + 1, by omega, by go_num, drewN_below HBE2.out _⟩
                                        case measure => simp [intOf]; omega
                                      · obtain rfl : k = D.n := by omega
                                        have dk : decide ((D.n : Int) < D.n) = false := by simp
                                        clear hbe2
                                        go_wp2_with fail
                                        go_ret
                                        exact ⟨rfl, BE6.out.trans (HBE2.out.mono BE6.out.size)⟩
end Go.Proofs.Qxb6604019a
