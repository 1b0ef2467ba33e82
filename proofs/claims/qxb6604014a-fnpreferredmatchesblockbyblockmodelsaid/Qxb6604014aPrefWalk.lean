/-
  THE WALK OF preferred (25): it hands back the rows that Dat.res says. Seat b6604014a.
-/
import Derived.Test.Qxb6604014aPrefTests
import Derived.Test.Qxb6604014aPrefRepeat
import Derived.Deep.DeepCutAuto
import Derived.Deep.AppendLies
import Derived.Deep.RegionLaw
import Derived.Outline
namespace Go.Proofs.Qxb6604014a
open Go.RowKit
set_option linter.unusedVariables false

set_option maxRecDepth 100000 in
set_option maxHeartbeats 4000000 in
theorem pref25 (D : Dat) (a b d : Option Addr) (cN cP cS : Nat) (w : World) (h : In D w a b d) :
    Calls Try.prog 25 #[.slice a D.N cN, .slice b D.P cP, .slice d D.S cS] w fun e w' => (∃ v base, e = .returned v ∧ Res w' base v (D.res D.N)) ∧ Below w.heap.size w w' := by
  have hN := h.n
  have hP := h.p
  have hS := h.s
  have H := hide h
  clear h
  have b0 : Below w.heap.size w ((w.alloc (.cells #[.slice d D.S cS] 31)).alloc (.cells #[.int .i64 (-1)] 3)) := ((Below.refl _ _).alloc (Nat.le_refl _) _).alloc (by simp) _
  have HR := hide (repeat32 (w.heap.size + 1) D.S hS ((w.alloc (.cells #[.slice d D.S cS] 31)).alloc (.cells #[.int .i64 (-1)] 3)) (by simp) (by simp [go_sem]))
  have B0 := hide b0
  clear b0
  have HBX : Hid (((w.alloc (.cells #[.slice d D.S cS] 31)).alloc (.cells #[.int .i64 (-1)] 3)).cell? ⟨w.heap.size, 0, none⟩ = some (.slice d D.S cS)) := by
    show _ = _
    rw [World.cell?_alloc_lt _ _ _ (by simp)]
    simp [go_sem]
  go_enter Try.func25, Try.ntmps25
  go_wp2_with fail
  refine HR.out.mono ?_
  rintro e W1 ⟨rfl, hrow, hb1⟩
  have HW := hide hrow
  have hbox : W1.cell? ⟨w.heap.size, 0, none⟩ = some (.slice d D.S cS) := by rw [hb1.cell (by simp; omega)]; exact HBX.out
  have HB1 := hide (B0.out.trans (hb1.mono B0.out.size))
  have hs1 := hrow.lt
  simp only [World.size_alloc] at hs1 hrow
  have HW := hide hrow
  clear hrow hb1 HR B0
  go_wp2_with fail
  generalize hg0 : w.heap.size + 1 + 1 = g0 at *
  have hwg : w.heap.size < g0 := by omega
  clear hg0
  go_loopw [8, 9, 11, 32] (fun _ _ _ i wr => ∃ k : Nat, k ≤ D.N ∧ i = .int .i64 k ∧ wr.rowIs g0 3 D.S (iv .i64 (fun t => D.own k t)) ∧ Below g0 W1 wr) (fun _ _ _ i _ => D.N - (intOf i).toNat)
  case atStart => exact ⟨0, Nat.zero_le _, rfl, HW.out, Below.refl _ _⟩
  case round =>
    obtain ⟨k, hk, rfl, hrow, hbe⟩ := hrel
    have HROW := hide hrow
    have HBE := hide hbe
    have HWW := hide (HB1.out.trans (hbe.mono (by omega)))
    by_cases hkN : k < D.N
    · obtain ⟨ad, cp, hbl, hrows⟩ := H.out.bl
      obtain ⟨b1, o1, rfl, l1, c1⟩ := hbl k hkN
      have hLk := H.out.l k hkN
      have dk : decide ((k : Int) < D.N) = true := by simp; omega
      have c1' : wr.cell? ⟨b1, o1 + k, none⟩ = some (.slice (ad k) (D.L k) (cp k)) := by rw [HWW.out.cell l1]; exact c1
      have HRW := hide (hrows k hkN)
      have HID := hide (H.out.ids.1 k hkN)
      clear hbl hrows c1 hrow hbe
      go_wp2_with fail
      go_loopw [11, 39] (fun _ i wr => ∃ j : Nat, j ≤ D.L k ∧ i = .int .i64 j ∧ wr.rowIs g0 3 D.S (iv .i64 (fun t => D.ownJ k j t)) ∧ Below g0 W1 wr) (fun _ i _ => D.L k - (intOf i).toNat)
      case atStart => exact ⟨0, Nat.zero_le _, rfl, HROW.out.congr (fun i _ => by show Value.int .i64 (D.own k i) = Value.int .i64 (D.ownJ k 0 i); rw [D.ownJ_zero]), HBE.out⟩
      case round =>
        obtain ⟨j, hj, rfl, hrow, hbe⟩ := hrel
        have HROW2 := hide hrow
        have HBE2 := hide hbe
        by_cases hjL : j < D.L k
        · obtain ⟨b2, o2, e2, l2, c2⟩ := HRW.out j hjL
          obtain ⟨x0, x1⟩ := HID.out j hjL
          have c2' : wr.cell? ⟨b2, o2 + j, none⟩ = some (.int .i64 (D.c k j)) := by rw [(HB1.out.trans (hbe.mono (by omega))).cell l2]; exact c2
          have fr : wr.frozen? ⟨g0, (D.c k j).toNat, none⟩ = false := hrow.frozen _
          obtain ⟨v0, e0⟩ : ∃ v, wr.cell? ⟨g0, (D.c k j).toNat, none⟩ = some v := ⟨_, hrow.cell (by omega)⟩
          have R : Hid ((wr.setCell ⟨g0, (D.c k j).toNat, none⟩ (.int .i64 k)).rowIs g0 3 D.S (iv .i64 (fun t => D.ownJ k (j + 1) t))) := by
            refine (hrow.set _ _).congr fun i hi => ?_
            show (if i = (D.c k j).toNat then Value.int .i64 k else Value.int .i64 (D.ownJ k j i)) = Value.int .i64 (D.ownJ k (j + 1) i)
            rw [D.ownJ_step]
            by_cases e : i = (D.c k j).toNat
            · rw [if_pos e, if_pos (by omega)]
            · rw [if_neg e, if_neg (by omega)]
          rw [e2]
          clear hrow hbe c2 e2
          go_wp2_with fail
          go_roundw
          case rel => exact ⟨j + 1, by omega, by go_num, R.out, HBE2.out.setCell (Nat.le_refl _) _⟩
          case measure => simp [intOf]; omega
        · obtain rfl : j = D.L k := by omega
          clear hrow hbe
          go_wp2_with fail
          go_roundw
          case rel => exact ⟨k + 1, by omega, by go_num, HROW2.out.congr (fun i _ => rfl), HBE2.out⟩
          case measure => simp [intOf]; omega
    · obtain rfl : k = D.N := by omega
      have dk : decide ((D.N : Int) < D.N) = false := by simp
      clear hrow hbe
      have hmk := run_make_row' (P := Try.prog) 22 35 (.slice none 0 0) 24 Try.underlying22 Try.info35 rfl .i64 .i64 D.N (by omega) (by omega)
      have hgr := HROW.out.lt
      go_wp2_with fail
      go_cut [12, 13] (fun vb va wx => ∃ gB gA : Nat, vb = .slice (some ⟨gB, 0, none⟩) D.N D.N ∧ va = .slice (some ⟨gA, 0, none⟩) D.N D.N ∧ gB ≠ gA ∧ wr.heap.size ≤ gB ∧ wr.heap.size ≤ gA ∧ wx.rowIs gB 35 D.N (fun _ => .slice none 0 0) ∧ wx.rowIs gA 35 D.N (fun _ => .slice none 0 0) ∧ Below wr.heap.size wr wx)
      case first =>
        have r0 : Hid (((wr.alloc (.cells (madeCells #[.slice none 0 0] D.N) 35)).alloc (.cells (madeCells #[.slice none 0 0] D.N) 35)).drew.rowIs wr.heap.size 35 D.N (fun _ => .slice none 0 0)) := (World.rowIs_made wr _ _ _).alloc _
        have r1 : Hid (((wr.alloc (.cells (madeCells #[.slice none 0 0] D.N) 35)).alloc (.cells (madeCells #[.slice none 0 0] D.N) 35)).drew.rowIs (wr.heap.size + 1) 35 D.N (fun _ => .slice none 0 0)) := by
          have := World.rowIs_made (wr.alloc (.cells (madeCells #[.slice none 0 0] D.N) 35)) (.slice none 0 0) D.N 35
          rw [World.size_alloc] at this
          exact this
        have rb : Hid (Below wr.heap.size wr ((wr.alloc (.cells (madeCells #[.slice none 0 0] D.N) 35)).alloc (.cells (madeCells #[.slice none 0 0] D.N) 35)).drew) := (((Below.refl _ _).alloc (Nat.le_refl _) _).alloc (by simp) _).drew
        go_region
        all_goals
          go_wp2_with fail
          go_meet
          case rel => first | exact ⟨wr.heap.size, wr.heap.size + 1, rfl, rfl, by omega, Nat.le_refl _, by omega, r0.out, r1.out, rb.out⟩ | exact ⟨wr.heap.size + 1, wr.heap.size, rfl, rfl, by omega, by omega, Nat.le_refl _, r1.out, r0.out, rb.out⟩
      case rest =>
        clear hmk
        obtain ⟨gB, gA, rfl, rfl, hne, hgB, hgA, rB, rA, hbc⟩ := hcut
        have hlB := rB.lt
        have hlA := rA.lt
        have RB := hide rB
        have RA := hide rA
        have HBC := hide hbc
        clear rB rA hbc
        obtain ⟨W4, rfl⟩ : ∃ W4 : World, W4 = wr := ⟨_, rfl⟩
        obtain ⟨W5, rfl⟩ : ∃ W5 : World, W5 = wc := ⟨_, rfl⟩
        have hle := HBC.out.size
        go_wp2_with fail
        obtain ⟨i0, hi, q0, q1, q2⟩ := info_parts Try.info3
        go_loopw [15, 16, 17, 57] (fun _ _ _ i wr => ∃ (k : Nat) (v : Nat → Value), k ≤ D.P ∧ i = .int .i64 k ∧ Fam wr W5.heap.size (D.N + D.N) v (D.ba k) ∧ wr.rowIs gB 35 D.N v ∧ wr.rowIs gA 35 D.N (fun i => v (D.N + i)) ∧ Below W4.heap.size W4 wr ∧ W5.heap.size ≤ wr.heap.size) (fun _ _ _ i _ => D.P - (intOf i).toNat)
        case atStart => exact ⟨0, fun _ => .slice none 0 0, Nat.zero_le _, rfl, (Fam.start W5 W5.heap.size _).congr (fun x _ => by unfold Dat.ba; split <;> rfl), RB.out, RA.out, HBC.out, Nat.le_refl _⟩
        case round =>
          obtain ⟨k, v, hkP, rfl, hfam, hB, hA, hb4, hsz⟩ := hrel
          have HF := hide hfam
          have HRB := hide hB
          have HRA := hide hA
          have HB4 := hide hb4
          by_cases hlt : k < D.P
          · have HW5 := hide (HWW.out.trans (hb4.mono (by have := HROW.out.lt; have := HWW.out.size; omega)))
            obtain ⟨b1, o1, rfl, l1, c1, c2⟩ := H.out.pr k hlt
            rw [← HW5.out.cell l1] at c1
            rw [← HW5.out.cell l1] at c2
            unfold iv at c1 c2
            obtain ⟨f0, f1⟩ := H.out.ids.2.1 k hlt
            obtain ⟨y0, y1⟩ := H.out.ids.2.2 k hlt
            have o1' : wr.cell? ⟨g0, (D.g k).toNat, none⟩ = some (.int .i64 (D.own D.N (D.g k))) := by
              rw [hb4.cell hgr, HROW.out.cell (by omega)]
              show some (Value.int .i64 (D.own D.N ((D.g k).toNat : Int))) = _
              rw [Int.toNat_of_nonneg y0]
            have o2' : wr.cell? ⟨g0, (D.f k).toNat, none⟩ = some (.int .i64 (D.own D.N (D.f k))) := by
              rw [hb4.cell hgr, HROW.out.cell (by omega)]
              show some (Value.int .i64 (D.own D.N ((D.f k).toNat : Int))) = _
              rw [Int.toNat_of_nonneg f0]
            have r1 := D.own_range D.N (D.g k)
            have r2 := D.own_range D.N (D.f k)
            have dk : decide ((k : Int) < D.P) = true := by simp; omega
            have hg0r : g0 < wr.heap.size := by have := hb4.size; omega
            clear hfam hB hA hb4
            go_upto_if 67 with fail
            go_cut [16] (fun _ wx => ∃ v' : Nat → Value, Fam wx W5.heap.size (D.N + D.N) v' (D.bb k) ∧ wx.rowIs gB 35 D.N v' ∧ wx.rowIs gA 35 D.N (fun i => v' (D.N + i)) ∧ Below W4.heap.size W4 wx ∧ wr.heap.size < wx.heap.size ∧ wx.cell? ⟨wr.heap.size, 0, none⟩ = some (.int .i64 (D.f k)) ∧ wx.cell? ⟨wr.heap.size, 1, none⟩ = some (.int .i64 (D.g k)))
            case first =>
              by_cases hge : 0 ≤ D.own D.N (D.g k)
              · obtain ⟨I, hI⟩ := Int.eq_ofNat_of_zero_le hge
                have hIN : I < D.N := by omega
                have HH := hide (D.ba_hit hIN hI)
                have cI : wr.cell? ⟨gB, I, none⟩ = some (v I) := HRB.out.cell hIN
                have fI : wr.frozen? ⟨gB, I, none⟩ = false := HRB.out.frozen I
                have n1 : ¬ gB = wr.heap.size := by omega
                have hgBl : gB < wr.heap.size := by omega
                have z1 : ∀ o, (wr.alloc o).cell? ⟨gB, I, none⟩ = some (v I) := fun o => by rw [World.cell?_alloc_lt _ _ _ hgBl]; exact cI
                have z2 : ∀ o o', ((wr.alloc o).alloc o').cell? ⟨gB, I, none⟩ = some (v I) := fun o o' => by rw [World.cell?_alloc_lt _ _ _ (by simp; omega)]; exact z1 o
                have z3 : ∀ o o', ((wr.alloc o).alloc o').frozen? ⟨gB, I, none⟩ = false := fun o o' => by rw [World.frozen?_alloc_old _ _ _ (by simp; omega), World.frozen?_alloc_old _ _ _ (by simp; omega)]; exact fI
                rw [hI] at o1' ⊢
                have i0' : (0 : Int) ≤ (I : Int) := by omega
                have i1' : (I : Int) < (D.N : Int) := by omega
                have HOWN : Hid (∀ o o', ((wr.alloc o).alloc o').drew.ownsRow W5.heap.size 3 1 (v I) (D.ba k I).length ((D.ba k I).map (Value.int .i64))) := fun o o' => ((HF.out.own I (by omega)).alloc o).alloc o'
                have HNEW : Hid (∀ o, ∀ j u, [Value.int .i64 (D.f k)][j]? = some u → ((wr.alloc o).alloc (.cells #[.int .i64 (D.f k)] 3)).drew.cell? ((⟨wr.heap.size + 1, 0, none⟩ : Addr).add j) = some u) := by
                  intro o
                  have := cell_one_new (wr.alloc o) (.int .i64 (D.f k)) 3
                  rw [World.size_alloc] at this
                  exact this
                have HONE : Hid (∀ u ∈ [Value.int .i64 (D.f k)], u.oneCell' = true) := by intro u hu; simp at hu; subst hu; rfl
                have hbl := D.ba_len k I
                have hblk := (HF.out.own I (by omega)).lt
                have HBLK : Hid (∀ q, q < W5.heap.size → some q ≠ (v I).ownBlock) := by
                  intro q hq e
                  have := (hblk q e.symm).1
                  omega
                have HBL2 : Hid (some wr.heap.size ≠ (v I).ownBlock) := by
                  intro e
                  have := (hblk _ e.symm).2
                  omega
                clear hI hge r1 hblk
                go_wp2_with fail
                go_region_law ((refine step_append_lies _ (by rfl) (.tmp 73) (.tmp 76) 35 (by rfl) W5.heap.size 3 i0 (.int .i64 0) 1 8 Try.underlying35 hi q0 q1 q2 rfl (by decide) (v I) (D.ba k I).length ((D.ba k I).map (Value.int .i64)) (by rfl) (HOWN.out _ _) ⟨wr.heap.size + 1, 0, none⟩ 1 1 [.int .i64 (D.f k)] (by rfl) rfl (HNEW.out _) HONE.out (by omega) (by unfold maxLen; omega) (by omega) (by simp; omega) (wr.heap.size + 1 + 1) (by simp) ?_; intro g cap w1 hown hgrow hat hlt2; (have s1 : w1.cell? ⟨gB, I, none⟩ = some (v I) := (hgrow.cell_far ⟨gB, I, none⟩ (by simp; omega) (HBLK.out gB hlB)).trans (z2 _ _)); (have s2 : w1.frozen? ⟨gB, I, none⟩ = false := (hgrow.frozen_far ⟨gB, I, none⟩ (by simp; omega) (HBLK.out gB hlB)).trans (z3 _ _))))
                all_goals
                  go_wp2_with fail
                  go_meet
                  case rel =>
                    have F := fam_step (s := 0) (s' := D.N) (i := I) (y := D.f k) HF.out (by omega) hIN (((Below.refl _ wr).alloc (Nat.le_refl _) (.cells #[.int .i64 (D.f k), .int .i64 (D.g k)] 47)).alloc (by simp) (.cells #[.int .i64 (D.f k)] 3)).drew hsz (HRB.out.congr (fun j _ => by rw [Nat.zero_add])) HRA.out (fun j _ => by omega) hne hlB hlA HB4.out hgB (by omega) (by rw [Nat.zero_add]; exact hown) (by rw [Nat.zero_add]; exact hgrow) (by rw [Nat.zero_add]; simpa using hat)
                    rw [Nat.zero_add] at F
                    obtain ⟨F1, F2, F3, F4, F5, F6⟩ := F
                    have hl6 : wr.heap.size < ((wr.alloc (.cells #[.int .i64 (D.f k), .int .i64 (D.g k)] 47)).alloc (.cells #[.int .i64 (D.f k)] 3)).drew.heap.size := by simp; omega
                    refine ⟨_, F1.congr (fun x _ => HH.out x), F2.congr (fun j _ => by rw [Nat.zero_add]), F3, F4, Nat.lt_of_lt_of_le hl6 F5, ?_, ?_⟩
                    · rw [F6 wr.heap.size 0 hl6 HBL2.out (fun e => n1 e.symm)]
                      simp [go_sem, World.cell?_alloc_past]
                    · rw [F6 wr.heap.size 1 hl6 HBL2.out (fun e => n1 e.symm)]
                      simp [go_sem, World.cell?_alloc_past]
              · have hmi : D.own D.N (D.g k) = -1 := by omega
                have HH := hide (D.ba_miss hmi)
                have hnb : decide ((0 : Int) ≤ D.own D.N (D.g k)) = false := decide_eq_false hge
                clear hmi r1
                go_wp2_with fail
                go_meet
                case rel =>
                  have ba := (Below.refl wr.heap.size wr).alloc (Nat.le_refl _) (.cells #[.int .i64 (D.f k), .int .i64 (D.g k)] 47)
                  exact ⟨v, (HF.out.below ba).congr (fun x _ => HH.out x), HRB.out.alloc _, HRA.out.alloc _, HB4.out.trans (ba.mono HB4.out.size), by simp, by simp [go_sem], by simp [go_sem]⟩
            case rest =>
              obtain ⟨v2, hf2, hB2, hA2, hb2, hl2, p0, p1⟩ := hcut
              have HF2 := hide hf2
              have HRB2 := hide hB2
              have HRA2 := hide hA2
              have HB2 := hide hb2
              have o3' : wc.cell? ⟨g0, (D.f k).toNat, none⟩ = some (.int .i64 (D.own D.N (D.f k))) := by
                rw [hb2.cell hgr, HROW.out.cell (by omega)]
                show some (Value.int .i64 (D.own D.N ((D.f k).toNat : Int))) = _
                rw [Int.toNat_of_nonneg f0]
              clear hf2 hB2 hA2 hb2 o1' o2' c1 c2
              by_cases hge : 0 ≤ D.own D.N (D.f k)
              · obtain ⟨I, hI⟩ := Int.eq_ofNat_of_zero_le hge
                have hIN : I < D.N := by omega
                have HH := hide (D.bb_hit hIN hI)
                have cI : wc.cell? ⟨gA, I, none⟩ = some (v2 (D.N + I)) := HRA2.out.cell hIN
                have fI : wc.frozen? ⟨gA, I, none⟩ = false := HRA2.out.frozen I
                have hgAl : gA < wc.heap.size := by omega
                have z1 : ∀ o, (wc.alloc o).cell? ⟨gA, I, none⟩ = some (v2 (D.N + I)) := fun o => by rw [World.cell?_alloc_lt _ _ _ hgAl]; exact cI
                have z3 : ∀ o, (wc.alloc o).frozen? ⟨gA, I, none⟩ = false := fun o => by rw [World.frozen?_alloc_old _ _ _ (by simp; omega)]; exact fI
                rw [hI] at o3'
                have i0' : (0 : Int) ≤ (I : Int) := by omega
                have i1' : (I : Int) < (D.N : Int) := by omega
                have HOWN : Hid (∀ o, (wc.alloc o).drew.ownsRow W5.heap.size 3 1 (v2 (D.N + I)) (D.bb k (D.N + I)).length ((D.bb k (D.N + I)).map (Value.int .i64))) := fun o => (HF2.out.own (D.N + I) (by omega)).alloc o
                have HNEW : Hid (∀ j u, [Value.int .i64 (D.g k)][j]? = some u → (wc.alloc (.cells #[.int .i64 (D.g k)] 3)).drew.cell? ((⟨wc.heap.size, 0, none⟩ : Addr).add j) = some u) := cell_one_new wc (.int .i64 (D.g k)) 3
                have HONE : Hid (∀ u ∈ [Value.int .i64 (D.g k)], u.oneCell' = true) := by intro u hu; simp at hu; subst hu; rfl
                have hbl := D.bb_len k (D.N + I)
                have hblk := (HF2.out.own (D.N + I) (by omega)).lt
                have HBLK : Hid (∀ q, q < W5.heap.size → some q ≠ (v2 (D.N + I)).ownBlock) := by
                  intro q hq e
                  have := (hblk q e.symm).1
                  omega
                clear hI hge r1 r2 hblk
                go_wp2_with fail
                go_region_law ((refine step_append_lies _ (by rfl) (.tmp 91) (.tmp 94) 35 (by rfl) W5.heap.size 3 i0 (.int .i64 0) 1 8 Try.underlying35 hi q0 q1 q2 rfl (by decide) (v2 (D.N + I)) (D.bb k (D.N + I)).length ((D.bb k (D.N + I)).map (Value.int .i64)) (by rfl) (HOWN.out _) ⟨wc.heap.size, 0, none⟩ 1 1 [.int .i64 (D.g k)] (by rfl) rfl HNEW.out HONE.out (by omega) (by unfold maxLen; omega) (by omega) (by simp; omega) (wc.heap.size + 1) (by simp) ?_; intro g cap w1 hown hgrow hat hlt2; (have s1 : w1.cell? ⟨gA, I, none⟩ = some (v2 (D.N + I)) := (hgrow.cell_far ⟨gA, I, none⟩ (by simp; omega) (HBLK.out gA hlA)).trans (z1 _)); (have s2 : w1.frozen? ⟨gA, I, none⟩ = false := (hgrow.frozen_far ⟨gA, I, none⟩ (by simp; omega) (HBLK.out gA hlA)).trans (z3 _))))
                all_goals
                  have F := hide (fam_step (s := D.N) (s' := 0) (i := I) (y := D.g k) HF2.out (by omega) hIN (((Below.refl _ wc).alloc (Nat.le_refl _) (.cells #[.int .i64 (D.g k)] 3))).drew (by omega) HRA2.out (HRB2.out.congr (fun j _ => by rw [Nat.zero_add])) (fun j _ => by omega) (fun e => hne e.symm) hlA hlB HB2.out hgA (by omega) hown hgrow (by simpa using hat))
                  clear hown hgrow hat s1 s2 z1 z3 cI fI
                  go_wp2_with fail
                  go_roundw
                  case rel =>
                    obtain ⟨F1, F2, F3, F4, F5, F6⟩ := F.out
                    refine ⟨k + 1, _, by omega, by go_num, F1.congr (fun x _ => HH.out x), F3.congr (fun j _ => by rw [Nat.zero_add]), F2, F4, ?_⟩
                    have : wc.heap.size ≤ (wc.alloc (.cells #[.int .i64 (D.g k)] 3)).drew.heap.size := by simp
                    omega
                  case measure => simp [intOf]; omega
              · have hmi : D.own D.N (D.f k) = -1 := by omega
                have HH := hide (D.bb_miss hmi)
                have hnb : decide ((0 : Int) ≤ D.own D.N (D.f k)) = false := decide_eq_false hge
                clear hmi r1 r2
                go_wp2_with fail
                go_roundw
                case rel => exact ⟨k + 1, v2, by omega, by go_num, HF2.out.congr (fun x _ => HH.out x), HRB2.out, HRA2.out, HB2.out, by omega⟩
                case measure => simp [intOf]; omega
          · obtain rfl : k = D.P := by omega
            have dk : decide ((D.P : Int) < D.P) = false := by simp
            clear hfam hB hA hb4
            obtain ⟨W6, rfl⟩ : ∃ W6 : World, W6 = wr := ⟨_, rfl⟩
            have HALL := hide (HWW.out.trans (HB4.out.mono HWW.out.size))
            have HI := hide (H.out.below HALL.out)
            have HBX6 : Hid (W6.cell? ⟨w.heap.size, 0, none⟩ = some (.slice d D.S cS)) := by
              show _ = _
              rw [HB4.out.cell (by show w.heap.size < _; omega), HBE.out.cell (by show w.heap.size < _; omega)]
              exact hbox
            have hbx6 : w.heap.size < W6.heap.size := by omega
            have hgB6 := HRB.out.lt
            have hgA6 := HRA.out.lt
            clear H HWW HB4 HBE HROW RB RA HBC HB1 HW HBX hbox
            obtain ⟨j0, hj, p0, p1, p2⟩ := info_parts Try.info35
            go_wp2_with fail
            go_loopw [20, 21, 22, 23, 25, 102] (fun v _ _ _ _ i wr => ∃ k : Nat, k ≤ D.N ∧ i = .int .i64 k ∧ Res wr W6.heap.size v (D.res k) ∧ Below W6.heap.size W6 wr) (fun _ _ _ _ _ i _ => D.N - (intOf i).toNat)
            case atStart => exact ⟨0, Nat.zero_le _, rfl, Res.nil _ _, Below.refl _ _⟩
            case round =>
              obtain ⟨k, hk2, rfl, hres, hbe⟩ := hrel
              have HRS := hide hres
              have HBE := hide hbe
              clear hres hbe
              obtain ⟨W3, rfl⟩ : ∃ W3 : World, W3 = wr := ⟨_, rfl⟩
              by_cases hkN : k < D.N
              · have dk : decide ((k : Int) < D.N) = true := by simp; omega
                have HI3 := hide (HI.out.below HBE.out)
                have hc3 : W3.cell? ⟨w.heap.size, 0, none⟩ = some (.slice d D.S cS) := by rw [HBE.out.cell hbx6]; exact HBX6.out
                have hs3 := HBE.out.size
                obtain ⟨a1, n1, c1, e1, hn1, hen, hT1⟩ := test_bef D (W := W3) hkN HI3.out hc3 (by omega) (owns_below (HF.out.own k (by omega)) HBE.out)
                obtain ⟨a2, n2, c2, e2, hn2, hT2⟩ := test_aft D (W := W3) hkN HI3.out hc3 (by omega) (owns_below (HF.out.own (D.N + k) (by omega)) HBE.out)
                have x1 : W3.cell? ⟨gB, k, none⟩ = some (.slice a1 n1 c1) := by rw [HBE.out.cell hgB6, HRB.out.cell hkN, e1]
                have x2 : W3.cell? ⟨gA, k, none⟩ = some (.slice a2 n2 c2) := by rw [HBE.out.cell hgA6, HRA.out.cell hkN, e2]
                obtain ⟨ad, cp, hbl, hrows⟩ := HI3.out.bl
                obtain ⟨b7, off7, rfl, hb7, hc7⟩ := hbl k hkN
                have hc7' : W3.cell? ⟨b7, off7 + k, none⟩ = some (.slice (ad k) (D.L k) (cp k)) := hc7
                have HROWS := hide (hrows k hkN)
                have HT1 := hide hT1
                have HT2 := hide hT2
                have HX2 := hide x2
                have HC3 := hide hc3
                clear hbl hrows hc7 hT1 hT2 e1 e2 x2 hc3
                have k0 : (0 : Int) ≤ (k : Int) := by omega
                have k1 : (k : Int) < (D.N : Int) := by omega
                by_cases hz : n1 = 0
                · have HQ := hide (D.res_miss (qual_ent (hen.1 hz)))
                  clear hen
                  subst hz
                  go_wp2_with fail
                  go_roundw
                  case rel => exact ⟨k + 1, by omega, by go_num, by rw [HQ.out]; exact HRS.out, HBE.out⟩
                  case measure => simp [intOf]; omega
                · have hz' : ((n1 : Int) == 0) = false := by simpa using hz
                  have HEN : Hid (D.ent k D.P = true) := by
                    show _ = _
                    cases h : D.ent k D.P with
                    | true => rfl
                    | false => exact absurd (hen.2 h) hz
                  clear hen hz
                  cases hun : D.unr k D.P with
                  | true =>
                    have HQ := hide (D.res_miss (qual_unr (D := D) (k := k) (by unfold Dat.rca; rw [hun]; rfl)))
                    rw [hun] at HT1
                    clear hun
                    go_wp2_with fail
                    refine HT1.out.mono ?_
                    rintro e w5 ⟨rfl, hb5⟩
                    have HR5 := hide (HRS.out.below hb5)
                    have HB5 := hide (HBE.out.trans (hb5.mono HBE.out.size))
                    clear hb5
                    go_wp2_with fail
                    go_roundw
                    case rel => exact ⟨k + 1, by omega, by go_num, by rw [HQ.out]; exact HR5.out, HB5.out⟩
                    case measure => simp [intOf]; omega
                  | false =>
                    rw [hun] at HT1
                    have HUN := hide hun
                    clear hun
                    go_wp2_with fail
                    refine HT1.out.mono ?_
                    rintro e w5 ⟨rfl, hb5⟩
                    have x2' : w5.cell? ⟨gA, k, none⟩ = some (.slice a2 n2 c2) := by rw [hb5.cell (by show gA < _; omega)]; exact HX2.out
                    have HT3 := hide (HT2.out w5 hb5)
                    have HB53 := hide hb5
                    clear hb5 HT2 HT1
                    cases hfa : D.fal k D.P with
                    | false =>
                      have HQ := hide (D.res_miss (qual_fal hfa))
                      rw [hfa] at HT3
                      clear hfa
                      go_wp2_with fail
                      refine HT3.out.mono ?_
                      rintro e w6 ⟨rfl, hb6⟩
                      have HB63 := hide (HB53.out.trans (hb6.mono HB53.out.size))
                      have HR6 := hide (HRS.out.below HB63.out)
                      have HB6 := hide (HBE.out.trans (HB63.out.mono HBE.out.size))
                      clear hb6
                      go_wp2_with fail
                      go_roundw
                      case rel => exact ⟨k + 1, by omega, by go_num, by rw [HQ.out]; exact HR6.out, HB6.out⟩
                      case measure => simp [intOf]; omega
                    | true =>
                      rw [hfa] at HT3
                      have HQU := hide (qual_yes HEN.out (by unfold Dat.rca; rw [HUN.out]; rfl) hfa)
                      clear hfa
                      go_wp2_with fail
                      refine HT3.out.mono ?_
                      rintro e w6 ⟨rfl, hb6⟩
                      have HB63 := hide (HB53.out.trans (hb6.mono HB53.out.size))
                      clear hb6 x1 x2'
                      obtain ⟨W7, rfl⟩ : ∃ W7 : World, W7 = w6 := ⟨_, rfl⟩
                      have HRS4 := hide (HRS.out.below HB63.out)
                      have HBE4 := hide (HBE.out.trans (HB63.out.mono HBE.out.size))
                      have HI4 := hide (HI3.out.below HB63.out)
                      have HC4 : Hid (W7.cell? ⟨w.heap.size, 0, none⟩ = some (.slice d D.S cS)) := by
                        show _ = _
                        rw [HB63.out.cell (by show w.heap.size < _; omega)]
                        exact HC3.out
                      have HROWS4 := hide (HROWS.out.below HB63.out)
                      have hs7 := HB63.out.size
                      clear HRS HBE HI3 HB63 HB53 HROWS HT3 HC3 hc7'
                      have hLk := HI4.out.l k hkN
                      go_wp2_with fail
                      go_loopw [23, 25, 132] (fun v _ i wr => ∃ j : Nat, j ≤ D.L k ∧ i = .int .i64 j ∧ wr.ownsRow W7.heap.size 3 1 v (D.alt k j).length ((D.alt k j).map (Value.int .i64)) ∧ Below W7.heap.size W7 wr) (fun _ _ i _ => D.L k - (intOf i).toNat)
                      case atStart => exact ⟨0, Nat.zero_le _, rfl, World.ownsRow_nil _ _ _ _, Below.refl _ _⟩
                      case round =>
                        obtain ⟨j, hjL, rfl, hown, hbj⟩ := hrel
                        have HBJ := hide hbj
                        have HOW := hide hown
                        by_cases hjl : j < D.L k
                        · obtain ⟨b8, off8, e8, hb8, hc8⟩ := HROWS4.out.below hbj j hjl
                          obtain ⟨c0, c1'⟩ := HI4.out.ids.1 k hkN j hjl
                          obtain ⟨b9, off9, rfl, hb9, hc9, hc9'⟩ := (HI4.out.below hbj).sv (D.c k j).toNat (by omega)
                          obtain ⟨y0, y1⟩ := HI4.out.o (D.c k j).toNat (by omega)
                          have hcb : wr.cell? ⟨w.heap.size, 0, none⟩ = some (.slice (some ⟨b9, off9, none⟩) D.S cS) := by rw [hbj.cell (by show w.heap.size < _; omega)]; exact HC4.out
                          have dj : decide ((j : Int) < D.L k) = true := by simp; omega
                          unfold iv at hc8 hc9
                          unfold bv at hc9'
                          have hln := D.alt_len k j
                          have hsz := hbj.size
                          have j0' : (0 : Int) ≤ (j : Int) := by omega
                          have j1' : (j : Int) < (D.L k : Int) := by omega
                          rw [e8]
                          clear hbj hown e8
                          cases hrec : D.recT (D.c k j) with
                          | true =>
                            have hrec' : recV (D.o (D.c k j).toNat) (D.l (D.c k j).toNat) = true := hrec
                            have HA := hide (D.alt_hit hrec)
                            clear hrec
                            go_wp2_with fail
                            refine (rec34 _ _ y0 y1 _).mono ?_
                            rintro e w5 ⟨rfl, hb5⟩
                            have HB5 := hide (HBJ.out.trans (hb5.mono HBJ.out.size))
                            have HO5 := hide (owns_below HOW.out hb5)
                            have hs5 := hb5.size
                            clear hb5
                            go_wp2_with (at_builtin; refine wpList_append_own _ rfl _ _ 35 rfl W7.heap.size 3 i0 (.int .i64 0) 1 8 Try.underlying35 hi q0 q1 q2 rfl (by decide) _ _ _ rfl (HO5.out.alloc _) ⟨w5.heap.size, 0, none⟩ 1 1 [.int .i64 (D.c k j)] rfl rfl ?c1 ?c2 ?c3 ?c4 ?c5 ?_)
                            case c1 =>
                              intro i u hu
                              match i, hu with
                              | 0, hu => simp at hu; subst hu; simp [Addr.add]
                            case c2 => intro u hu; simp at hu; subst hu; rfl
                            case c3 => unfold maxLen; omega
                            case c4 => omega
                            case c5 => simp; omega
                            · intro v' w6 hown' hgrow _
                              have R1 : Hid (w6.ownsRow W7.heap.size 3 1 v' (D.alt k (j + 1)).length ((D.alt k (j + 1)).map (Value.int .i64))) := by
                                rw [HA.out, List.length_append, List.map_append]; exact hown'
                              have R2 := hide ((HB5.out.alloc (by omega) _).grown hgrow (by simp; omega) (fun q hq => (HO5.out.lt q hq).1))
                              clear hown' hgrow
                              go_wp2_with fail
                              go_roundw
                              case rel => exact ⟨j + 1, by omega, by go_num, R1.out, R2.out⟩
                              case measure => simp [intOf]; omega
                          | false =>
                            have hrec' : recV (D.o (D.c k j).toNat) (D.l (D.c k j).toNat) = false := hrec
                            have HA := hide (D.alt_miss hrec)
                            clear hrec
                            go_wp2_with fail
                            refine (rec34 _ _ y0 y1 _).mono ?_
                            rintro e w5 ⟨rfl, hb5⟩
                            have HB5 := hide (HBJ.out.trans (hb5.mono HBJ.out.size))
                            have HO5 := hide (owns_below HOW.out hb5)
                            clear hb5
                            go_wp2_with fail
                            go_roundw
                            case rel => exact ⟨j + 1, by omega, by go_num, by rw [HA.out]; exact HO5.out, HB5.out⟩
                            case measure => simp [intOf]; omega
                        · obtain rfl : j = D.L k := by omega
                          have dj : decide ((D.L k : Int) < D.L k) = false := by simp
                          have hln := D.alt_len k (D.L k)
                          rcases owns_cases hown with ⟨hv, h0⟩ | ⟨g7, cap7, hv⟩
                          · subst hv
                            have HQ := hide (D.res_none h0)
                            have HR' := hide (HRS4.out.below HBJ.out)
                            have HBE5 := hide (HBE4.out.trans (HBJ.out.mono HBE4.out.size))
                            clear hown hbj h0
                            go_wp2_with fail
                            go_roundw
                            case rel => exact ⟨k + 1, by omega, by go_num, by rw [HQ.out]; exact HR'.out, HBE5.out⟩
                            case measure => simp [intOf]; omega
                          · have hhs := hs_of_owns (by rw [← hv]; exact hown)
                            have hg7 := (hown.lt g7 (by rw [hv]; rfl)).1
                            obtain ⟨n7, hn7⟩ : ∃ n, (D.alt k (D.L k)).length = n := ⟨_, rfl⟩
                            rw [hn7] at hv hhs hln
                            subst hv
                            by_cases h0 : n7 = 0
                            · have HQ := hide (D.res_none (hn7.trans h0))
                              have HR' := hide (HRS4.out.below HBJ.out)
                              have HBE5 := hide (HBE4.out.trans (HBJ.out.mono HBE4.out.size))
                              clear hown hbj hn7 hhs HOW
                              subst h0
                              go_wp2_with fail
                              go_roundw
                              case rel => exact ⟨k + 1, by omega, by go_num, by rw [HQ.out]; exact HR'.out, HBE5.out⟩
                              case measure => simp [intOf]; omega
                            · have HQ := hide (D.res_hit HQU.out (by omega))
                              have h0' : (0 : Int) < n7 := by omega
                              have HC := hide (sort38 g7 n7 cap7 _ wr (by omega) hhs)
                              have hsz := hbj.size
                              have HN7 := hide hn7
                              clear hown hbj h0 hhs HOW hn7
                              go_wp2_with fail
                              refine HC.out.mono ?_
                              rintro e w5 ⟨rfl, ⟨y, hy, hys⟩, hgr⟩
                              have hys' : ls n7 y = srt (D.alt k (D.L k)) := by rw [hys, ← HN7.out, ls_getD]
                              have HB5 := hide (HBJ.out.grown hgr (by omega) (fun q hq => by injection hq with hq; omega))
                              obtain ⟨hd, ho5, hr5⟩ := HRS4.out.below HB5.out
                              have hx5 : some g7 ≠ u20.ownBlock := by
                                intro e
                                obtain ⟨hd4, ho4, _⟩ := HRS4.out
                                have h2 := (ho4.lt g7 e.symm).2
                                omega
                              have HU := hide (rowOf_sorted (cap := cap7) hy hys' hx5)
                              have HO5 := hide ho5
                              have HR5 := hide hr5
                              have hl5 := HB5.out.size
                              have hrl := D.res_len k
                              have HBE5 := hide (HBE4.out.trans (HB5.out.mono HBE4.out.size))
                              have hlB := HBE5.out.size
                              clear hgr hy hys hys' ho5 hr5 hx5 HC
                              go_wp2_with (at_builtin; refine wpList_append_own_at _ rfl _ _ 22 rfl W6.heap.size 35 j0 (.slice none 0 0) 1 24 Try.underlying22 hj p0 p1 p2 rfl (by decide) _ _ _ rfl (HO5.out.alloc _) ⟨w5.heap.size, 0, none⟩ 1 1 [.slice (some ⟨g7, 0, none⟩) n7 cap7] rfl rfl ?c1 ?c2 ?c3 ?c4 ?c5 ?_)
                              case c1 => exact cell_one_new _ _ _
                              case c2 => intro u hu; simp at hu; subst hu; rfl
                              case c3 => unfold maxLen; omega
                              case c4 => omega
                              case c5 => simp; omega
                              · intro v' w6 hown' hgrow _ hat
                                have ba : Below w5.heap.size w5 (w5.alloc (.cells #[.slice (some ⟨g7, 0, none⟩) n7 cap7] 35)) := (Below.refl _ _).alloc (Nat.le_refl _) _
                                have RES : Hid (Res w6 W6.heap.size v' (D.res (k + 1))) := by
                                  show Res _ _ _ _
                                  rw [HQ.out]
                                  exact Res.push (HO5.out.alloc _) (fun i hi => by obtain ⟨u, h1, h2⟩ := HR5.out i hi; exact ⟨u, h1, h2.below ba⟩) (HU.out.below ba) hown' hgrow (by simpa using hat)
                                have RB := hide ((HBE5.out.alloc (by omega) _).grown hgrow (by simp; omega) (fun q hq => (HO5.out.lt q hq).1))
                                clear hown' hgrow hat ba
                                go_wp2_with fail
                                go_roundw
                                case rel => exact ⟨k + 1, by omega, by go_num, RES.out, RB.out⟩
                                case measure => simp [intOf]; omega
              · obtain rfl : k = D.N := by omega
                have dk : decide ((D.N : Int) < D.N) = false := by simp
                go_wp2_with fail
                go_ret
                exact ⟨⟨_, _, rfl, HRS.out⟩, HALL.out.trans (HBE.out.mono HALL.out.size)⟩
end Go.Proofs.Qxb6604014a
