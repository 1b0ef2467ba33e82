/-
  THE LAW FnPreferredMatchesBlockByBlockModel (3), walked: it says true whatever it is given. Seat b6604014a.
-/
import Derived.Test.Qxb6604014aPrefWalk
namespace Go.Proofs.Qxb6604014a
open Go.RowKit
set_option linter.unusedVariables false

set_option maxHeartbeats 1000000 in
theorem zzpref12 (D : Dat) (a b d : Option Addr) (cN cP cS : Nat) (w : World) (h : In D w a b d) :
    Calls Try.prog 12 #[.slice a D.N cN, .slice b D.P cP, .slice d D.S cS] w fun e w' => (∃ v base, e = .returned v ∧ Res w' base v (D.res D.N)) ∧ Below w.heap.size w w' := by
  have HC := hide (pref25 D a b d cN cP cS w h)
  clear h
  go_enter Try.func12, Try.ntmps12
  go_wp2_with fail
  refine HC.out.mono ?_
  rintro e w' ⟨⟨v, base, rfl, hr⟩, hb⟩
  have HR := hide hr
  have HB := hide hb
  clear hr hb
  obtain ⟨a', cap, rfl, _⟩ := HR.out.bl
  go_wp2_with fail
  go_ret
  exact ⟨⟨_, _, rfl, HR.out⟩, HB.out⟩

theorem res_small (D : Dat) (hN : D.N ≤ 4096) (hL : ∀ i, i < D.N → D.L i ≤ 4096) : (D.res D.N).length ≤ 4096 ∧ ∀ i, i < (D.res D.N).length → ((D.res D.N).getD i []).length ≤ 4096 := by
  have := D.res_len D.N
  refine ⟨by omega, fun i hi => ?_⟩
  obtain ⟨k, hk, e⟩ := D.res_row hi
  rw [e, srt_length]
  have := D.alt_len k (D.L k)
  have := hL k hk
  omega

set_option maxRecDepth 100000 in
set_option maxHeartbeats 4000000 in
theorem law3 (D : Dat) (a b d : Option Addr) (cN cP cS : Nat) (w : World) (mN : D.N ≤ maxLen) (mP : D.P ≤ maxLen) (mS : D.S ≤ maxLen) (mL : ∀ i, i < D.N → D.L i ≤ maxLen) (ho : ∀ i, i < D.S → 0 ≤ D.o i ∧ D.o i ≤ 255)
    (hbl : Bl w a D.N D.L D.c) (hpr : Rd2 w b D.P (iv .i64 D.f) (iv .i64 D.g)) (hsv : Rd2 w d D.S (iv .u8 D.o) (bv D.l)) :
    Calls Try.prog 3 #[.slice a D.N cN, .slice b D.P cP, .slice d D.S cS] w fun e w' => e = .returned (.bool true) ∧ Below w.heap.size w w' := by
  have HBL := hide hbl
  have HPR := hide hpr
  have HSV := hide hsv
  have HO := hide ho
  obtain ⟨ad, cp, h1, h2⟩ := hbl
  have H1 := hide h1
  have H6 := hide (zz6 a b d D.N cN D.P cP D.S cS D.L ad cp mN mP mS mL w h1)
  clear hpr hsv ho h1 h2
  go_enter Try.func3, Try.ntmps3
  go_wp2_with fail
  refine H6.out.mono ?_
  rintro e w' ⟨rfl | ⟨rfl, hL1⟩, rfl⟩
  · go_wp2_with fail
    go_ret
    exact ⟨rfl, Below.refl _ _⟩
  · have H7 := hide (big7 a b d D.N cN D.P cP D.S cS D.L ad cp mN mP mS hL1 w H1.out)
    clear hL1
    go_wp2_with fail
    refine H7.out.mono ?_
    rintro e w' ⟨rfl | ⟨rfl, hsm⟩, rfl⟩
    · go_wp2_with fail
      go_ret
      exact ⟨rfl, Below.refl _ _⟩
    · have hN := hsm.n
      have hP := hsm.p
      have hS := hsm.s
      have HL : Hid (∀ i, i < D.N → D.L i ≤ 4096) := by
        intro i hi
        have h1 := sumL_mono D.L (k := i + 1) (n := D.N) (by omega)
        have h2 : sumL D.L (i + 1) = sumL D.L i + D.L i := rfl
        have h3 := hsm.t
        omega
      have H8 := hide (ids8 a b D.N cN D.P cP D.S D.L D.c D.f D.g hN hP hS HL w HBL.out HPR.out)
      clear hsm H7 H6 mN mP mS mL
      go_wp2_with fail
      refine H8.out.mono ?_
      rintro e w' ⟨rfl | ⟨rfl, hids⟩, rfl⟩
      · go_wp2_with fail
        go_ret
        exact ⟨rfl, Below.refl _ _⟩
      · have HID := hide hids
        clear hids
        go_wp2_with fail
        refine (clone9 a D.N cN D.L D.c w hN HL HBL.out).mono ?_
        rintro e w1 ⟨⟨a1, c1, rfl, hbl1⟩, hb1⟩
        have BL1 := hide hbl1
        have PR1 := hide (HPR.out.below hb1)
        have SV1 := hide (HSV.out.below hb1)
        have HB1 := hide hb1
        clear hbl1 hb1
        go_wp2_with fail
        refine (clone10 b D.P cP D.f D.g w1 hP PR1.out).mono ?_
        rintro e w2 ⟨⟨a2, c2, rfl, hpr2⟩, hb2⟩
        have BL2 := hide (BL1.out.below hb2)
        have PR2 := hide hpr2
        have SV2 := hide (SV1.out.below hb2)
        have HB2 := hide (below_trans HB1.out hb2)
        clear hpr2 hb2
        go_wp2_with fail
        refine (clone11 d D.S cS D.o D.l w2 hS SV2.out).mono ?_
        rintro e w3 ⟨⟨a3, c3, rfl, hsv3⟩, hb3⟩
        have BL3 := hide (BL2.out.below hb3)
        have PR3 := hide (PR2.out.below hb3)
        have SV3 := hide hsv3
        have HB3 := hide (below_trans HB2.out hb3)
        clear hsv3 hb3
        go_wp2_with fail
        refine (svcs13 a3 D.S c3 D.o D.l w3 hS SV3.out).mono ?_
        rintro e w4 ⟨⟨a4, c4, rfl, hsv4⟩, hb4⟩
        have BL4 := hide (BL3.out.below hb4)
        have PR4 := hide (PR3.out.below hb4)
        have SV4 := hide (SV3.out.below hb4)
        have HB4 := hide (below_trans HB3.out hb4)
        have IN4 : Hid (In D w4 a1 a2 a4) := ⟨hN, hP, hS, HL.out, HID.out, HO.out, BL4.out, PR4.out, hsv4⟩
        clear hsv4 hb4
        go_wp2_with fail
        refine (zzpref12 D a1 a2 a4 c1 c2 c4 w4 IN4.out).mono ?_
        rintro e w5 ⟨⟨v5, base5, rfl, hres5⟩, hb5⟩
        have RS5 := hide hres5
        have HB5 := hide (below_trans HB4.out hb5)
        have IN5 : Hid (In D w5 a1 a2 a3) := ⟨hN, hP, hS, HL.out, HID.out, HO.out, BL4.out.below hb5, PR4.out.below hb5, SV4.out.below hb5⟩
        clear hres5 hb5
        go_wp2_with fail
        refine (model14 D a1 a2 a3 c1 c2 c3 w5 IN5.out).mono ?_
        rintro e w6 ⟨⟨v6, base6, rfl, hres6⟩, hb6⟩
        obtain ⟨x5, k5, rfl, hB5⟩ := (RS5.out.below hb6).bl
        obtain ⟨x6, k6, rfl, hB6⟩ := hres6.bl
        have HB6 := hide (below_trans HB5.out hb6)
        have HS := hide (res_small D hN HL.out)
        have C := hide (same15 x5 x6 _ k5 k6 _ _ w6 HS.out.1 HS.out.2 hB5 hB6)
        clear hres6 hb6 hB5 hB6 RS5
        generalize (D.res D.N).length = nr at *
        go_wp2_with fail
        refine C.out.mono ?_
        rintro e w7 ⟨rfl, q, rfl⟩
        go_wp2_with fail
        go_ret
        exact ⟨rfl, HB6.out.os, HB6.out.tape, HB6.out.output, HB6.out.size, HB6.out.block⟩
end Go.Proofs.Qxb6604014a
