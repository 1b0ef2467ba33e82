/-
  THE WALK OF b1PreferredModel (14): it hands back the rows that Dat.res says. Seat b6604014a.
-/
import Derived.Test.Qxb6604014aPrefPlain
namespace Go.Proofs.Qxb6604014a
open Go.RowKit
set_option linter.unusedVariables false

/-- What a call's arguments are: the blocks, the pairs, the services. -/
structure In (D : Dat) (w : World) (a b d : Option Addr) : Prop where
  n : D.N ≤ 4096
  p : D.P ≤ 4096
  s : D.S ≤ 65536
  l : ∀ i, i < D.N → D.L i ≤ 4096
  ids : IdsOk D.N D.L D.c D.P D.f D.g D.S
  o : ∀ i, i < D.S → 0 ≤ D.o i ∧ D.o i ≤ 255
  bl : Bl w a D.N D.L D.c
  pr : Rd2 w b D.P (iv .i64 D.f) (iv .i64 D.g)
  sv : Rd2 w d D.S (iv .u8 D.o) (bv D.l)
theorem In.below {D : Dat} {w w' : World} {a b d : Option Addr} (h : In D w a b d) (hb : Below w.heap.size w w') : In D w' a b d :=
  ⟨h.n, h.p, h.s, h.l, h.ids, h.o, h.bl.below hb, h.pr.below hb, h.sv.below hb⟩

theorem bcell {W w1 : World} (hb : Below W.heap.size W w1) : ∀ b o, b < W.heap.size → w1.cell? ⟨b, o, none⟩ = W.cell? ⟨b, o, none⟩ :=
  fun b o h => hb.cell (p := ⟨b, o, none⟩) h

theorem last27' (D : Dat) (a : Option Addr) (cN : Nat) (t : Int) (hN : D.N ≤ 4096) (hL : ∀ i, i < D.N → D.L i ≤ 4096) (w : World) (h : Bl w a D.N D.L D.c) :
    Calls Try.prog 27 #[.slice a D.N cN, .int .i64 t] w fun e w' => e = .returned (.int .i64 (D.own D.N t)) ∧ w = w' :=
  (last27 a D.N cN D.L D.c t hN hL w h).mono fun e w' ⟨⟨r, he, hr⟩, hw⟩ => ⟨by rw [he, D.isLast_own D.N hr], hw⟩

namespace Dat
variable (D : Dat)
theorem ent_hit {k q : Nat} (h : D.own D.N (D.g q) = k) : D.ent k (q + 1) = true := by unfold ent; rw [D.bef_hit h]; simp
theorem ent_miss {k q : Nat} (h : D.own D.N (D.g q) ≠ k) : D.ent k (q + 1) = D.ent k q := by unfold ent; rw [D.bef_miss h]
/-- All that enter it are recoverable. -/
def rca (k q : Nat) : Bool := !D.unr k q
theorem unr_hit {k q : Nat} (h : D.own D.N (D.g q) = k) : D.unr k (q + 1) = (D.unr k q || !D.recT (D.f q)) := by unfold unr; rw [D.bef_hit h, List.any_append]; simp
theorem unr_miss {k q : Nat} (h : D.own D.N (D.g q) ≠ k) : D.unr k (q + 1) = D.unr k q := by unfold unr; rw [D.bef_miss h]
theorem fal_hit {k q : Nat} (h : D.own D.N (D.f q) = k) : D.fal k (q + 1) = (D.fal k q || !D.retT (D.g q)) := by unfold fal; rw [D.aft_hit h, List.any_append]; simp
theorem fal_miss {k q : Nat} (h : D.own D.N (D.f q) ≠ k) : D.fal k (q + 1) = D.fal k q := by unfold fal; rw [D.aft_miss h]
end Dat

/-- What an owned row of integers gives the sort. -/
theorem hs_of_owns {w : World} {base g cap : Nat} {l : List Int} (h : w.ownsRow base 3 1 (.slice (some ⟨g, 0, none⟩) l.length cap) l.length (l.map (Value.int .i64))) : Hs w g l.length (fun i => l.getD i 0) := by
  refine ⟨(h.lt g rfl).2, fun i hi => ⟨?_, h.frozenAt i⟩⟩
  rw [h.cellAt i (by omega)]
  simp [hi]
theorem ls_getD (l : List Int) : ls l.length (fun i => l.getD i 0) = l := by
  apply List.ext_getElem
  · rw [ls_length]
  · intro i h1 h2
    have := ls_get l.length (fun i => l.getD i 0) i h2
    rw [getD_lt h1] at this
    rw [this, getD_lt h2]
/-- The sorted row as a row of the result. -/
theorem rowOf_sorted {w : World} {g n cap : Nat} {y : Nat → Int} {r : List Int} {x : Option Nat} (h : Hs w g n y) (hr : ls n y = r) (hx : some g ≠ x) : RowOf w x (.slice (some ⟨g, 0, none⟩) n cap) r := by
  have hl : r.length = n := by rw [← hr, ls_length]
  refine ⟨g, cap, by rw [hl], h.1, hx, fun i hi => ?_⟩
  rw [(h.2 i (by omega)).1, ← hr, ls_get n y i (by omega)]
theorem owns_cases {w : World} {base : Nat} {v : Value} {n : Nat} {xs : List Value} (h : w.ownsRow base 3 1 v n xs) : (v = .slice none 0 0 ∧ n = 0) ∨ ∃ g cap, v = .slice (some ⟨g, 0, none⟩) n cap := by
  rcases h.2 with h | ⟨g, cap, cur, hv, _⟩
  · exact Or.inl h
  · exact Or.inr ⟨g, cap, hv⟩
theorem owns_below {w w' : World} {base : Nat} {e : TypeId} {v : Value} {n : Nat} {xs : List Value} (h : w.ownsRow base e 1 v n xs) (hb : Below w.heap.size w w') : w'.ownsRow base e 1 v n xs :=
  h.kept (grownBy_of_below hb) (by cases h : v.ownBlock <;> simp)
theorem qual_ent {D : Dat} {k : Nat} (h : D.ent k D.P = false) : D.qual k = false := by unfold Dat.qual; rw [h]; rfl
theorem qual_unr {D : Dat} {k : Nat} (h : D.rca k D.P = false) : D.qual k = false := by unfold Dat.rca at h; unfold Dat.qual; rw [h]; simp
theorem qual_fal {D : Dat} {k : Nat} (h : D.fal k D.P = false) : D.qual k = false := by unfold Dat.qual; rw [h]; simp
theorem qual_yes {D : Dat} {k : Nat} (h1 : D.ent k D.P = true) (h2 : D.rca k D.P = true) (h3 : D.fal k D.P = true) : D.qual k = true := by unfold Dat.rca at h2; unfold Dat.qual; rw [h1, h2, h3]; rfl
theorem below_drop {a b c : World} {B : Nat} (h : Below B a b) (k : Below b.heap.size b c) (hB : B ≤ b.heap.size) : Below B a c := h.trans (k.mono hB)

set_option maxRecDepth 100000 in
set_option maxHeartbeats 4000000 in
theorem model14 (D : Dat) (a b d : Option Addr) (cN cP cS : Nat) (w : World) (h : In D w a b d) :
    Calls Try.prog 14 #[.slice a D.N cN, .slice b D.P cP, .slice d D.S cS] w fun e w' => (∃ v base, e = .returned v ∧ Res w' base v (D.res D.N)) ∧ Below w.heap.size w w' := by
  have hN := h.n
  have hP := h.p
  have hS := h.s
  have H := hide h
  clear h
  have hmk := run_make_row' (P := Try.prog) 35 3 (.int .i64 0) 8 Try.underlying35 Try.info3 rfl .i64 .i64 D.P (by omega) (by omega)
  go_enter Try.func14, Try.ntmps14
  go_wp2
  clear hmk
  go_loopw [9] (fun i wr => ∃ k : Nat, k ≤ D.P ∧ i = .int .i64 k ∧ wr.rowIs w.heap.size 3 D.P (fun j => if j < k then iv .i64 (fun q => D.own D.N (D.f q)) j else .int .i64 0) ∧ wr.rowIs (w.heap.size + 1) 3 D.P (fun j => if j < k then iv .i64 (fun q => D.own D.N (D.g q)) j else .int .i64 0) ∧ Below w.heap.size w wr) (fun i _ => D.P - (intOf i).toNat)
  case atStart =>
    refine ⟨0, Nat.zero_le _, rfl, (fill_start w _ D.P 3 _).alloc _, ?_, ((Below.refl _ _).alloc (Nat.le_refl _) _).alloc (by simp) _⟩
    have := fill_start (w.alloc (.cells (madeCells #[.int .i64 0] D.P) 3)) (.int .i64 0) D.P 3 (iv .i64 (fun q => D.own D.N (D.g q)))
    simpa using this
  case round =>
    obtain ⟨k, hk, rfl, hr1, hr2, hbel⟩ := hrel
    have HB := hide hbel
    have HR1 := hide hr1
    have HR2 := hide hr2
    have HI := hide (H.out.below hbel)
    by_cases hlt : k < D.P
    · obtain ⟨b1, off1, rfl, hb1, hc1, hc2⟩ := H.out.pr k hlt
      rw [← hbel.cell hb1] at hc1
      rw [← hbel.cell hb1] at hc2
      unfold iv at hc1 hc2
      have fr1 : wr.frozen? ⟨w.heap.size, k, none⟩ = false := hr1.frozen k
      have fr2 : wr.frozen? ⟨w.heap.size + 1, k, none⟩ = false := hr2.frozen k
      obtain ⟨v0, e0⟩ : ∃ v, wr.cell? ⟨w.heap.size, k, none⟩ = some v := ⟨_, hr1.cell hlt⟩
      obtain ⟨v1, e1⟩ : ∃ v, wr.cell? ⟨w.heap.size + 1, k, none⟩ = some v := ⟨_, hr2.cell hlt⟩
      have R1 : Hid ((wr.setCell ⟨w.heap.size, k, none⟩ (.int .i64 (D.own D.N (D.f k)))).rowIs w.heap.size 3 D.P (fun j => if j < k + 1 then iv .i64 (fun q => D.own D.N (D.f q)) j else .int .i64 0)) := fill_step (w := w) hr1
      have HB' := hide (HB.out.setCell (p := ⟨w.heap.size, k, none⟩) (Nat.le_refl _) (.int .i64 (D.own D.N (D.f k))))
      have HI' := hide (H.out.below HB'.out)
      have R2 : Hid (((wr.setCell ⟨w.heap.size, k, none⟩ (.int .i64 (D.own D.N (D.f k)))).setCell ⟨w.heap.size + 1, k, none⟩ (.int .i64 (D.own D.N (D.g k)))).rowIs (w.heap.size + 1) 3 D.P (fun j => if j < k + 1 then iv .i64 (fun q => D.own D.N (D.g q)) j else .int .i64 0)) := fill_step (w := w) (f := iv .i64 (fun q => D.own D.N (D.g q))) (hr2.setOther (by simp) _)
      have hbw : ¬ b1 = w.heap.size := by omega
      clear hr1 hr2 hbel
      go_wp2_with fail
      refine (last27' D _ _ _ hN HI.out.l _ HI.out.bl).mono ?_
      rintro e w' ⟨rfl, rfl⟩
      go_wp2_with fail
      refine (last27' D _ _ _ hN HI.out.l _ HI'.out.bl).mono ?_
      rintro e w' ⟨rfl, rfl⟩
      go_wp2_with fail
      go_roundw
      case rel => exact ⟨k + 1, by omega, by go_num, R1.out.setOther (by simp) _, R2.out, HB'.out.setCell (by simp) _⟩
      case measure => simp [intOf]; omega
    · obtain rfl : k = D.P := by omega
      clear hr1 hr2 hbel
      obtain ⟨W2, rfl⟩ : ∃ W2 : World, W2 = wr := ⟨_, rfl⟩
      have S1 := hide (fill_end HR1.out)
      have S2 := hide (fill_end HR2.out)
      clear HR1 HR2
      have hg2 : w.heap.size + 1 < W2.heap.size := S2.out.lt
      obtain ⟨i0, hi, q0, q1, q2⟩ := info_parts Try.info3
      obtain ⟨j0, hj, p0, p1, p2⟩ := info_parts Try.info35
      go_wp2_with fail
      go_loopw [10, 11, 12, 13, 14, 15, 16, 17, 18] (fun v i _ _ _ _ _ _ _ wr => ∃ k : Nat, k ≤ D.N ∧ i = .int .i64 k ∧ Res wr W2.heap.size v (D.res k) ∧ Below W2.heap.size W2 wr) (fun _ i _ _ _ _ _ _ _ _ => D.N - (intOf i).toNat)
      case atStart => exact ⟨0, Nat.zero_le _, rfl, Res.nil _ _, Below.refl _ _⟩
      case round =>
        obtain ⟨k, hk2, rfl, hres, hbe⟩ := hrel
        have HRS := hide hres
        have HBE := hide hbe
        clear hres hbe
        obtain ⟨W3, rfl⟩ : ∃ W3 : World, W3 = wr := ⟨_, rfl⟩
        by_cases hkN : k < D.N
        · have dk : decide ((k : Int) < D.N) = true := by simp; omega
          have T1 := hide (S1.out.of_block (HBE.out.block _ S1.out.lt))
          have T2 := hide (S2.out.of_block (HBE.out.block _ S2.out.lt))
          have HI3 := hide (HI.out.below HBE.out)
          go_wp2_with fail
          go_loopw [12, 13, 14, 15] (fun en al le i wr => ∃ q : Nat, q ≤ D.P ∧ en = .bool (D.ent k q) ∧ al = .bool (D.rca k q) ∧ le = .bool (D.fal k q) ∧ i = .int .i64 q ∧ Below W3.heap.size W3 wr) (fun _ _ _ i _ => D.P - (intOf i).toNat)
          case atStart => exact ⟨0, Nat.zero_le _, rfl, rfl, rfl, rfl, Below.refl _ _⟩
          case round =>
            obtain ⟨q, hq, rfl, rfl, rfl, rfl, hbq⟩ := hrel
            have HBQ := hide hbq
            by_cases hqP : q < D.P
            · have dq : decide ((q : Int) < D.P) = true := by simp; omega
              have x1 : wr.cell? ⟨w.heap.size, q, none⟩ = some (.int .i64 (D.own D.N (D.f q))) := by rw [hbq.cell T1.out.lt]; exact T1.out.cell hqP
              have x2 : wr.cell? ⟨w.heap.size + 1, q, none⟩ = some (.int .i64 (D.own D.N (D.g q))) := by rw [hbq.cell T2.out.lt]; exact T2.out.cell hqP
              obtain ⟨b4, off4, rfl, hb4, hc4, hc4'⟩ := (HI3.out.below hbq).pr q hqP
              unfold iv at hc4 hc4'
              obtain ⟨f0, f1⟩ := HI3.out.ids.2.1 q hqP
              obtain ⟨g0, g1⟩ := HI3.out.ids.2.2 q hqP
              obtain ⟨b5, off5, e5, hb5, hc5, hc5'⟩ := (HI3.out.below hbq).sv (D.f q).toNat (by omega)
              obtain ⟨b6, off6, e6, hb6, hc6, hc6'⟩ := (HI3.out.below hbq).sv (D.g q).toNat (by omega)
              obtain rfl := e5
              obtain ⟨rfl, rfl⟩ : b6 = b5 ∧ off6 = off5 := by simpa using e6.symm
              unfold iv at hc5 hc6
              unfold bv at hc5' hc6'
              have l1 : w.heap.size < wr.heap.size := by have := hbq.size; have := T1.out.lt; omega
              have l2 : w.heap.size + 1 < wr.heap.size := by have := hbq.size; have := T2.out.lt; omega
              clear hbq e6
              by_cases hs : D.own D.N (D.g q) = k
              · have hsb : (D.own D.N (D.g q) == (k : Int)) = true := by simpa using hs
                have E1 := hide (D.ent_hit hs)
                have A1 := hide (D.unr_hit hs)
                clear hs
                cases hrec : D.recT (D.f q) with
                | true =>
                  have hrec' : recV (D.o (D.f q).toNat) (D.l (D.f q).toNat) = true := hrec
                  have A2 : Hid (D.rca k (q + 1) = D.rca k q) := by rw [Hid, Dat.rca, Dat.rca, A1.out, hrec]; simp
                  clear A1 hrec
                  by_cases hf : D.own D.N (D.f q) = k
                  · have hfb : (D.own D.N (D.f q) == (k : Int)) = true := by simpa using hf
                    have F1 := hide (D.fal_hit hf)
                    clear hf
                    cases hret : D.retT (D.g q) with
                    | true =>
                      have hret' : retV (D.o (D.g q).toNat) = true := hret
                      have F2 : Hid (D.fal k (q + 1) = D.fal k q) := by rw [Hid, F1.out, hret]; simp
                      clear F1 hret
                      go_wp2_with (first | (go_at_call 28; refine (rec28 _ _ _).mono ?_; rintro e w' ⟨rfl, hb8⟩; (have hc8 := bcell hb8); (have HB8 := hide (HBQ.out.trans (hb8.mono HBQ.out.size))); clear hb8) | (go_at_call 29; refine (ret29 _ _ _).mono ?_; rintro e w' ⟨rfl, hb9⟩; (first | (have HB9 := hide (HB8.out.trans (hb9.mono HB8.out.size))) | (have HB9 := hide (HBQ.out.trans (hb9.mono HBQ.out.size)))); clear hb9))
                      go_roundw
                      case rel => exact ⟨q + 1, by omega, by rw [E1.out], by rw [A2.out], by rw [F2.out], by go_num, by first | exact HB9.out | exact HB8.out | exact HBQ.out⟩
                      case measure => simp [intOf]; omega
                    | false =>
                      have hret' : retV (D.o (D.g q).toNat) = false := hret
                      have F2 : Hid (D.fal k (q + 1) = true) := by rw [Hid, F1.out, hret]; simp
                      clear F1 hret
                      go_wp2_with (first | (go_at_call 28; refine (rec28 _ _ _).mono ?_; rintro e w' ⟨rfl, hb8⟩; (have hc8 := bcell hb8); (have HB8 := hide (HBQ.out.trans (hb8.mono HBQ.out.size))); clear hb8) | (go_at_call 29; refine (ret29 _ _ _).mono ?_; rintro e w' ⟨rfl, hb9⟩; (first | (have HB9 := hide (HB8.out.trans (hb9.mono HB8.out.size))) | (have HB9 := hide (HBQ.out.trans (hb9.mono HBQ.out.size)))); clear hb9))
                      go_roundw
                      case rel => exact ⟨q + 1, by omega, by rw [E1.out], by rw [A2.out], by rw [F2.out], by go_num, by first | exact HB9.out | exact HB8.out | exact HBQ.out⟩
                      case measure => simp [intOf]; omega
                  · have hfb : (D.own D.N (D.f q) == (k : Int)) = false := by simpa using hf
                    have F2 := hide (D.fal_miss hf)
                    clear hf
                    go_wp2_with (first | (go_at_call 28; refine (rec28 _ _ _).mono ?_; rintro e w' ⟨rfl, hb8⟩; (have hc8 := bcell hb8); (have HB8 := hide (HBQ.out.trans (hb8.mono HBQ.out.size))); clear hb8) | (go_at_call 29; refine (ret29 _ _ _).mono ?_; rintro e w' ⟨rfl, hb9⟩; (first | (have HB9 := hide (HB8.out.trans (hb9.mono HB8.out.size))) | (have HB9 := hide (HBQ.out.trans (hb9.mono HBQ.out.size)))); clear hb9))
                    go_roundw
                    case rel => exact ⟨q + 1, by omega, by rw [E1.out], by rw [A2.out], by rw [F2.out], by go_num, by first | exact HB9.out | exact HB8.out | exact HBQ.out⟩
                    case measure => simp [intOf]; omega
                | false =>
                  have hrec' : recV (D.o (D.f q).toNat) (D.l (D.f q).toNat) = false := hrec
                  have A2 : Hid (D.rca k (q + 1) = false) := by rw [Hid, Dat.rca, A1.out, hrec]; simp
                  clear A1 hrec
                  by_cases hf : D.own D.N (D.f q) = k
                  · have hfb : (D.own D.N (D.f q) == (k : Int)) = true := by simpa using hf
                    have F1 := hide (D.fal_hit hf)
                    clear hf
                    cases hret : D.retT (D.g q) with
                    | true =>
                      have hret' : retV (D.o (D.g q).toNat) = true := hret
                      have F2 : Hid (D.fal k (q + 1) = D.fal k q) := by rw [Hid, F1.out, hret]; simp
                      clear F1 hret
                      go_wp2_with (first | (go_at_call 28; refine (rec28 _ _ _).mono ?_; rintro e w' ⟨rfl, hb8⟩; (have hc8 := bcell hb8); (have HB8 := hide (HBQ.out.trans (hb8.mono HBQ.out.size))); clear hb8) | (go_at_call 29; refine (ret29 _ _ _).mono ?_; rintro e w' ⟨rfl, hb9⟩; (first | (have HB9 := hide (HB8.out.trans (hb9.mono HB8.out.size))) | (have HB9 := hide (HBQ.out.trans (hb9.mono HBQ.out.size)))); clear hb9))
                      go_roundw
                      case rel => exact ⟨q + 1, by omega, by rw [E1.out], by rw [A2.out], by rw [F2.out], by go_num, by first | exact HB9.out | exact HB8.out | exact HBQ.out⟩
                      case measure => simp [intOf]; omega
                    | false =>
                      have hret' : retV (D.o (D.g q).toNat) = false := hret
                      have F2 : Hid (D.fal k (q + 1) = true) := by rw [Hid, F1.out, hret]; simp
                      clear F1 hret
                      go_wp2_with (first | (go_at_call 28; refine (rec28 _ _ _).mono ?_; rintro e w' ⟨rfl, hb8⟩; (have hc8 := bcell hb8); (have HB8 := hide (HBQ.out.trans (hb8.mono HBQ.out.size))); clear hb8) | (go_at_call 29; refine (ret29 _ _ _).mono ?_; rintro e w' ⟨rfl, hb9⟩; (first | (have HB9 := hide (HB8.out.trans (hb9.mono HB8.out.size))) | (have HB9 := hide (HBQ.out.trans (hb9.mono HBQ.out.size)))); clear hb9))
                      go_roundw
                      case rel => exact ⟨q + 1, by omega, by rw [E1.out], by rw [A2.out], by rw [F2.out], by go_num, by first | exact HB9.out | exact HB8.out | exact HBQ.out⟩
                      case measure => simp [intOf]; omega
                  · have hfb : (D.own D.N (D.f q) == (k : Int)) = false := by simpa using hf
                    have F2 := hide (D.fal_miss hf)
                    clear hf
                    go_wp2_with (first | (go_at_call 28; refine (rec28 _ _ _).mono ?_; rintro e w' ⟨rfl, hb8⟩; (have hc8 := bcell hb8); (have HB8 := hide (HBQ.out.trans (hb8.mono HBQ.out.size))); clear hb8) | (go_at_call 29; refine (ret29 _ _ _).mono ?_; rintro e w' ⟨rfl, hb9⟩; (first | (have HB9 := hide (HB8.out.trans (hb9.mono HB8.out.size))) | (have HB9 := hide (HBQ.out.trans (hb9.mono HBQ.out.size)))); clear hb9))
                    go_roundw
                    case rel => exact ⟨q + 1, by omega, by rw [E1.out], by rw [A2.out], by rw [F2.out], by go_num, by first | exact HB9.out | exact HB8.out | exact HBQ.out⟩
                    case measure => simp [intOf]; omega
              · have hsb : (D.own D.N (D.g q) == (k : Int)) = false := by simpa using hs
                have E1 := hide (D.ent_miss hs)
                have A2 : Hid (D.rca k (q + 1) = D.rca k q) := by rw [Hid, Dat.rca, Dat.rca, D.unr_miss hs]
                clear hs
                by_cases hf : D.own D.N (D.f q) = k
                · have hfb : (D.own D.N (D.f q) == (k : Int)) = true := by simpa using hf
                  have F1 := hide (D.fal_hit hf)
                  clear hf
                  cases hret : D.retT (D.g q) with
                  | true =>
                    have hret' : retV (D.o (D.g q).toNat) = true := hret
                    have F2 : Hid (D.fal k (q + 1) = D.fal k q) := by rw [Hid, F1.out, hret]; simp
                    clear F1 hret
                    go_wp2_with (first | (go_at_call 28; refine (rec28 _ _ _).mono ?_; rintro e w' ⟨rfl, hb8⟩; (have hc8 := bcell hb8); (have HB8 := hide (HBQ.out.trans (hb8.mono HBQ.out.size))); clear hb8) | (go_at_call 29; refine (ret29 _ _ _).mono ?_; rintro e w' ⟨rfl, hb9⟩; (first | (have HB9 := hide (HB8.out.trans (hb9.mono HB8.out.size))) | (have HB9 := hide (HBQ.out.trans (hb9.mono HBQ.out.size)))); clear hb9))
                    go_roundw
                    case rel => exact ⟨q + 1, by omega, by rw [E1.out], by rw [A2.out], by rw [F2.out], by go_num, by first | exact HB9.out | exact HB8.out | exact HBQ.out⟩
                    case measure => simp [intOf]; omega
                  | false =>
                    have hret' : retV (D.o (D.g q).toNat) = false := hret
                    have F2 : Hid (D.fal k (q + 1) = true) := by rw [Hid, F1.out, hret]; simp
                    clear F1 hret
                    go_wp2_with (first | (go_at_call 28; refine (rec28 _ _ _).mono ?_; rintro e w' ⟨rfl, hb8⟩; (have hc8 := bcell hb8); (have HB8 := hide (HBQ.out.trans (hb8.mono HBQ.out.size))); clear hb8) | (go_at_call 29; refine (ret29 _ _ _).mono ?_; rintro e w' ⟨rfl, hb9⟩; (first | (have HB9 := hide (HB8.out.trans (hb9.mono HB8.out.size))) | (have HB9 := hide (HBQ.out.trans (hb9.mono HBQ.out.size)))); clear hb9))
                    go_roundw
                    case rel => exact ⟨q + 1, by omega, by rw [E1.out], by rw [A2.out], by rw [F2.out], by go_num, by first | exact HB9.out | exact HB8.out | exact HBQ.out⟩
                    case measure => simp [intOf]; omega
                · have hfb : (D.own D.N (D.f q) == (k : Int)) = false := by simpa using hf
                  have F2 := hide (D.fal_miss hf)
                  clear hf
                  go_wp2_with (first | (go_at_call 28; refine (rec28 _ _ _).mono ?_; rintro e w' ⟨rfl, hb8⟩; (have hc8 := bcell hb8); (have HB8 := hide (HBQ.out.trans (hb8.mono HBQ.out.size))); clear hb8) | (go_at_call 29; refine (ret29 _ _ _).mono ?_; rintro e w' ⟨rfl, hb9⟩; (first | (have HB9 := hide (HB8.out.trans (hb9.mono HB8.out.size))) | (have HB9 := hide (HBQ.out.trans (hb9.mono HBQ.out.size)))); clear hb9))
                  go_roundw
                  case rel => exact ⟨q + 1, by omega, by rw [E1.out], by rw [A2.out], by rw [F2.out], by go_num, by first | exact HB9.out | exact HB8.out | exact HBQ.out⟩
                  case measure => simp [intOf]; omega
            · obtain rfl : q = D.P := by omega
              obtain ⟨W4, rfl⟩ : ∃ W4 : World, W4 = wr := ⟨_, rfl⟩
              have HRS4 := hide (HRS.out.below HBQ.out)
              have HI4 := hide (HI3.out.below HBQ.out)
              have HBE4 := hide (HBE.out.trans (HBQ.out.mono HBE.out.size))
              have dq : decide ((D.P : Int) < D.P) = false := by simp
              clear hbq HRS HI3 HBE HBQ T1 T2
              cases hen : D.ent k D.P with
              | false =>
                have HQ := hide (D.res_miss (qual_ent hen))
                go_wp2_with fail
                go_roundw
                case rel => exact ⟨k + 1, by omega, by go_num, by rw [HQ.out]; exact HRS4.out, HBE4.out⟩
                case measure => simp [intOf]; omega
              | true =>
                cases hun : D.rca k D.P with
                | false =>
                  have HQ := hide (D.res_miss (qual_unr hun))
                  go_wp2_with fail
                  go_roundw
                  case rel => exact ⟨k + 1, by omega, by go_num, by rw [HQ.out]; exact HRS4.out, HBE4.out⟩
                  case measure => simp [intOf]; omega
                | true =>
                  cases hfa : D.fal k D.P with
                  | false =>
                    have HQ := hide (D.res_miss (qual_fal hfa))
                    go_wp2_with fail
                    go_roundw
                    case rel => exact ⟨k + 1, by omega, by go_num, by rw [HQ.out]; exact HRS4.out, HBE4.out⟩
                    case measure => simp [intOf]; omega
                  | true =>
                    have HQU := hide (qual_yes hen hun hfa)
                    clear hen hun hfa
                    have hLk := HI4.out.l k hkN
                    go_wp2_with fail
                    go_loopw [16, 17, 18] (fun v i _ wr => ∃ j : Nat, j ≤ D.L k ∧ i = .int .i64 j ∧ wr.ownsRow W4.heap.size 3 1 v (D.alt k j).length ((D.alt k j).map (Value.int .i64)) ∧ Below W4.heap.size W4 wr) (fun _ i _ _ => D.L k - (intOf i).toNat)
                    case atStart => exact ⟨0, Nat.zero_le _, rfl, World.ownsRow_nil _ _ _ _, Below.refl _ _⟩
                    case round =>
                      obtain ⟨j, hjL, rfl, hown, hbj⟩ := hrel
                      have HBJ := hide hbj
                      have HOW := hide hown
                      obtain ⟨ad, cp, hbl, hrows⟩ := (HI4.out.below hbj).bl
                      obtain ⟨b7, off7, rfl, hb7, hc7⟩ := hbl k hkN
                      by_cases hjl : j < D.L k
                      · obtain ⟨b8, off8, e8, hb8, hc8⟩ := hrows k hkN j hjl
                        obtain ⟨c0, c1⟩ := HI4.out.ids.1 k hkN j hjl
                        obtain ⟨b9, off9, rfl, hb9, hc9, hc9'⟩ := (HI4.out.below hbj).sv (D.c k j).toNat (by omega)
                        have hc7' : wr.cell? ⟨b7, off7 + k, none⟩ = some (.slice (ad k) (D.L k) (cp k)) := hc7
                        rw [e8] at hc7'
                        clear hc7
                        unfold iv at hc8 hc9
                        unfold bv at hc9'
                        have hln := D.alt_len k j
                        have hsz := hbj.size
                        clear hbl hrows hbj hown e8
                        cases hrec : D.recT (D.c k j) with
                        | true =>
                          have hrec' : recV (D.o (D.c k j).toNat) (D.l (D.c k j).toNat) = true := hrec
                          have HA := hide (D.alt_hit hrec)
                          clear hrec
                          go_wp2_with fail
                          refine (rec28 _ _ _).mono ?_
                          rintro e w5 ⟨rfl, hb5⟩
                          have HB5 := hide (HBJ.out.trans (hb5.mono HBJ.out.size))
                          have HO5 := hide (owns_below HOW.out hb5)
                          have hs5 := hb5.size
                          clear hb5
                          go_wp2_with (at_builtin; refine wpList_append_own _ rfl _ _ 35 rfl W4.heap.size 3 i0 (.int .i64 0) 1 8 Try.underlying35 hi q0 q1 q2 rfl (by decide) _ _ _ rfl (HO5.out.alloc _) ⟨w5.heap.size, 0, none⟩ 1 1 [.int .i64 (D.c k j)] rfl rfl ?c1 ?c2 ?c3 ?c4 ?c5 ?_)
                          case c1 =>
                            intro i u hu
                            match i, hu with
                            | 0, hu => simp at hu; subst hu; simp [Addr.add]
                          case c2 => intro u hu; simp at hu; subst hu; rfl
                          case c3 => unfold maxLen; omega
                          case c4 => omega
                          case c5 => simp; omega
                          · intro v' w6 hown' hgrow _
                            have R1 : Hid (w6.ownsRow W4.heap.size 3 1 v' (D.alt k (j + 1)).length ((D.alt k (j + 1)).map (Value.int .i64))) := by
                              rw [HA.out, List.length_append, List.map_append]; exact hown'
                            have R2 := hide ((HB5.out.alloc (by omega) _).grown hgrow (by simp; omega) (fun q hq => (HO5.out.lt q hq).1))
                            clear hown' hgrow
                            go_wp2_with fail
                            go_roundw
                            case rel => exact ⟨j + 1, by omega, by go_num, R1.out, R2.out⟩
                            case measure => simp [intOf]; omega
                        | false =>
                          have hrec' : recV (D.o (D.c k j).toNat) (D.l (D.c k j).toNat) = false := hrec
                          have HA := hide (D.alt_miss hrec)
                          clear hrec
                          go_wp2_with fail
                          refine (rec28 _ _ _).mono ?_
                          rintro e w5 ⟨rfl, hb5⟩
                          have HB5 := hide (HBJ.out.trans (hb5.mono HBJ.out.size))
                          have HO5 := hide (owns_below HOW.out hb5)
                          clear hb5
                          go_wp2_with fail
                          go_roundw
                          case rel => exact ⟨j + 1, by omega, by go_num, by rw [HA.out]; exact HO5.out, HB5.out⟩
                          case measure => simp [intOf]; omega
                      · obtain rfl : j = D.L k := by omega
                        have hln := D.alt_len k (D.L k)
                        clear hbl hrows
                        rcases owns_cases hown with ⟨hv, h0⟩ | ⟨g7, cap7, hv⟩
                        · subst hv
                          have HQ := hide (D.res_none h0)
                          have HR' := hide (HRS4.out.below HBJ.out)
                          have HBE5 := hide (HBE4.out.trans (HBJ.out.mono HBE4.out.size))
                          clear hown hbj h0
                          go_wp2_with fail
                          go_roundw
                          case rel => exact ⟨k + 1, by omega, by go_num, by rw [HQ.out]; exact HR'.out, HBE5.out⟩
                          case measure => simp [intOf]; omega
                        · have hhs := hs_of_owns (by rw [← hv]; exact hown)
                          have hg7 := (hown.lt g7 (by rw [hv]; rfl)).1
                          obtain ⟨n7, hn7⟩ : ∃ n, (D.alt k (D.L k)).length = n := ⟨_, rfl⟩
                          rw [hn7] at hv hhs hln
                          subst hv
                          by_cases h0 : n7 = 0
                          · have HQ := hide (D.res_none (hn7.trans h0))
                            have HR' := hide (HRS4.out.below HBJ.out)
                            have HBE5 := hide (HBE4.out.trans (HBJ.out.mono HBE4.out.size))
                            clear hown hbj hn7 hhs HOW
                            subst h0
                            go_wp2_with fail
                            go_roundw
                            case rel => exact ⟨k + 1, by omega, by go_num, by rw [HQ.out]; exact HR'.out, HBE5.out⟩
                            case measure => simp [intOf]; omega
                          · have HQ := hide (D.res_hit HQU.out (by omega))
                            have h0' : (0 : Int) < n7 := by omega
                            have HC := hide (sort30 g7 n7 cap7 _ wr (by omega) hhs)
                            have hsz := hbj.size
                            have HN7 := hide hn7
                            clear hown hbj h0 hhs HOW hn7
                            go_wp2_with fail
                            refine HC.out.mono ?_
                            rintro e w5 ⟨rfl, ⟨y, hy, hys⟩, hgr⟩
                            have hys' : ls n7 y = srt (D.alt k (D.L k)) := by rw [hys, ← HN7.out, ls_getD]
                            have HB5 := hide (HBJ.out.grown hgr (by omega) (fun q hq => by injection hq with hq; omega))
                            obtain ⟨hd, ho5, hr5⟩ := HRS4.out.below HB5.out
                            have hx5 : some g7 ≠ u10.ownBlock := by
                              intro e
                              obtain ⟨hd4, ho4, _⟩ := HRS4.out
                              have h2 := (ho4.lt g7 e.symm).2
                              omega
                            have HU := hide (rowOf_sorted (cap := cap7) hy hys' hx5)
                            have HO5 := hide ho5
                            have HR5 := hide hr5
                            have hl5 := HB5.out.size
                            have hrl := D.res_len k
                            have HBE5 := hide (HBE4.out.trans (HB5.out.mono HBE4.out.size))
                            have hlB := HBE5.out.size
                            clear hgr hy hys hys' ho5 hr5 hx5 HC
                            go_wp2_with (at_builtin; refine wpList_append_own_at _ rfl _ _ 22 rfl W2.heap.size 35 j0 (.slice none 0 0) 1 24 Try.underlying22 hj p0 p1 p2 rfl (by decide) _ _ _ rfl (HO5.out.alloc _) ⟨w5.heap.size, 0, none⟩ 1 1 [.slice (some ⟨g7, 0, none⟩) n7 cap7] rfl rfl ?c1 ?c2 ?c3 ?c4 ?c5 ?_)
                            case c1 => exact cell_one_new _ _ _
                            case c2 => intro u hu; simp at hu; subst hu; rfl
                            case c3 => unfold maxLen; omega
                            case c4 => omega
                            case c5 => simp; omega
                            · intro v' w6 hown' hgrow _ hat
                              have ba : Below w5.heap.size w5 (w5.alloc (.cells #[.slice (some ⟨g7, 0, none⟩) n7 cap7] 35)) := (Below.refl _ _).alloc (Nat.le_refl _) _
                              have RES : Hid (Res w6 W2.heap.size v' (D.res (k + 1))) := by
                                show Res _ _ _ _
                                rw [HQ.out]
                                exact Res.push (HO5.out.alloc _) (fun i hi => by obtain ⟨u, h1, h2⟩ := HR5.out i hi; exact ⟨u, h1, h2.below ba⟩) (HU.out.below ba) hown' hgrow (by simpa using hat)
                              have RB := hide ((HBE5.out.alloc (by omega) _).grown hgrow (by simp; omega) (fun q hq => (HO5.out.lt q hq).1))
                              clear hown' hgrow hat ba
                              go_wp2_with fail
                              go_roundw
                              case rel => exact ⟨k + 1, by omega, by go_num, RES.out, RB.out⟩
                              case measure => simp [intOf]; omega
        · obtain rfl : k = D.N := by omega
          have dk : decide ((D.N : Int) < D.N) = false := by simp
          go_wp2_with fail
          go_ret
          exact ⟨⟨_, _, rfl, HRS.out⟩, HB.out.trans (HBE.out.mono HB.out.size)⟩
end Go.Proofs.Qxb6604014a
