/-
  THE WALK OF readHeader (23) and of ZZReadHeader (14). Seat b6604019a.
-/
import Derived.Test.Qxb6604019aPlain
import Derived.Deep.DeepCutAuto
import Derived.Outline
namespace Go.Proofs.Qxb6604019a
open Go.RowKit
set_option linter.unusedVariables false

theorem grownBy_below {a b c : World} {row : Option Nat} (h : a.grownBy b row) (k : Below b.heap.size b c) : a.grownBy c row :=
  ⟨k.os.trans h.os, k.tape.trans h.tape, k.output.trans h.output, Nat.le_trans h.size k.size, fun i hi hne => (k.block i (Nat.lt_of_lt_of_le hi h.size)).trans (h.block i hi hne)⟩

/-- The names, the first one trimmed. -/
def trimmed (h : Nat → ByteArray) : Nat → ByteArray := fun i => if i = 0 then trim (h 0) else h i

theorem Rd.setOther {w : World} {a : Option Addr} {n : Nat} {f : Nat → Value} (h : Rd w a n f) {p : Addr} (hne : ∀ q, a = some q → q.block ≠ p.block) (v : Value) : Rd (w.setCell p v) a n f := by
  intro i hi
  obtain ⟨b, off, ha, hlt, hc⟩ := h i hi
  refine ⟨b, off, ha, by simpa [World.setCell] using hlt, ?_⟩
  rw [World.cell?_of_block (w := w) (a := ⟨b, off + i, none⟩) (Below.heap_setCell w p v b (hne _ ha))]
  exact hc
theorem grownBy_set {a w : World} {g : Nat} (h : a.grownBy w (some g)) {p : Addr} (hp : p.block = g) (v : Value) : a.grownBy (w.setCell p v) (some g) :=
  ⟨h.os, h.tape, h.output, by simpa [World.setCell] using h.size, fun i hi hne => (Below.heap_setCell w p v i (fun e => hne (by rw [e, hp]))).trans (h.block i hi hne)⟩
theorem Rw.congr0 {B : Nat} {w : World} {a : Option Addr} {t : TypeId} {n : Nat} {f : Nat → Value} (h : Rw B w a t n f) (h0 : n = 0) (f' : Nat → Value) : Rw B w a t n f' := by
  rcases h with h | ⟨g, hg, e, h⟩
  · exact Or.inl h
  · exact Or.inr ⟨g, hg, e, h.congr fun i hi => by omega⟩
theorem Prob.push {w' : World} {base : Nat} {v' : Value} {l : List ByteArray} {s : ByteArray} (h : w'.ownsRow base 35 2 v' (l.length + 1) (pc l ++ [.int .i64 1, .string s])) : Prob w' base v' (l ++ [s]) :=
  ⟨by rw [List.length_append, pc_append]; exact h, fun e => by simp at e⟩
theorem two_new (w : World) (u v : Value) (t : TypeId) : ∀ j x, [u, v][j]? = some x → (w.alloc (.cells #[u, v] t)).cell? ((⟨w.heap.size, 0, none⟩ : Addr).add j) = some x := by
  intro j x hx
  match j, hx with
  | 0, hx => simp at hx; subst hx; simp [Addr.add, go_sem]
  | 1, hx => simp at hx; subst hx; simp [Addr.add, go_sem]
theorem Prob.setCell {w : World} {base : Nat} {v : Value} {l : List ByteArray} (h : Prob w base v l) {p : Addr} (hp : p.block < base) (u : Value) : Prob (w.setCell p u) base v l := ⟨ownsRow_setCell_below h.1 hp u, h.2⟩

set_option maxRecDepth 100000 in
set_option maxHeartbeats 4000000 in
theorem head23 (D : Hd) (a b : Option Addr) (c d B : Nat) (h0 : Nat → ByteArray) (what : ByteArray) (w : World) (hn : D.n ≤ 4096) (hm : D.m ≤ 4096) (ho : D.opt ≤ D.m) (hD : D.h = trimmed h0) (hf : Fit D.n h0)
    (hh : Rw B w a 9 D.n (sv h0)) (hc : Rd w b D.m (sv D.C)) (hab : ∀ p q, a = some p → b = some q → p.block ≠ q.block) :
    Calls Try.prog 23 #[.slice a D.n c, .agg #[.string what, .slice b D.m d, .int .i64 D.opt]] w fun e w' =>
      (∃ gi v base, e = .returned (.tuple #[.slice (some ⟨gi, 0, none⟩) D.m D.m, v]) ∧ w'.rowIs gi 3 D.m (iv .i64 (D.ix D.n)) ∧ Prob w' base v D.full) ∧ Rw B w' a 9 D.n (sv D.h) ∧ w.grownBy w' (a.map (·.block)) := by
  have HH := hide hh
  have HC := hide hc
  have HAB := hide hab
  have HD := hide hD
  have HF := hide hf
  have bb : Below w.heap.size w (w.alloc (.cells #[.string what, .slice b D.m d, .int .i64 D.opt] 46)) := (Below.refl _ _).alloc (Nat.le_refl _) _
  have HBB := hide bb
  clear hh hc hab hD hf bb
  go_enter Try.func23, Try.ntmps23
  go_upto_if 16 with fail
  go_cut [4] (fun v wx => v = .slice none 0 0 ∧ wx.cell? ⟨w.heap.size, 0, none⟩ = some (.string what) ∧ wx.cell? ⟨w.heap.size, 1, none⟩ = some (.slice b D.m d) ∧ wx.cell? ⟨w.heap.size, 2, none⟩ = some (.int .i64 D.opt) ∧ w.heap.size < wx.heap.size ∧ Rw B wx a 9 D.n (sv D.h) ∧ Rd wx b D.m (sv D.C) ∧ w.grownBy wx (a.map (·.block)))
  case first =>
    by_cases hz : D.n = 0
    · have hz' : decide ((0 : Int) < D.n) = false := by simp; omega
      go_wp2_with fail
      go_meet
      case rel => exact ⟨rfl, by simp [go_sem], by simp [go_sem], by simp [go_sem], by simp, by rw [HD.out]; exact (HH.out.below HBB.out).congr0 hz _, HC.out.below HBB.out, World.grownBy_alloc _ _ _⟩
    · have hz' : decide ((0 : Int) < D.n) = true := by simp; omega
      rcases HH.out with ⟨_, e⟩ | ⟨g, hg, rfl, hrow⟩
      · exact absurd e hz
      have hgl := hrow.lt
      have c0 : w.cell? ⟨g, 0, none⟩ = some (.string (h0 0)) := hrow.cell (by omega)
      have f0 : w.frozen? ⟨g, 0, none⟩ = false := hrow.frozen 0
      have hfit := HF.out 0 (by omega)
      have hne : ¬ g = w.heap.size := by omega
      have HROW := hide hrow
      have z1 : ∀ o, (w.alloc o).cell? ⟨g, 0, none⟩ = some (.string (h0 0)) := fun o => by rw [World.cell?_alloc_lt _ _ _ hgl]; exact c0
      have z2 : ∀ o, (w.alloc o).frozen? ⟨g, 0, none⟩ = false := fun o => by rw [World.frozen?_alloc_old _ _ _ hne]; exact f0
      clear hrow
      go_wp2_with fail
      refine (trim25 _ hfit _).mono ?_
      rintro e w' ⟨rfl, rfl⟩
      go_wp2_with fail
      go_meet
      case rel =>
        refine ⟨rfl, ?_, ?_, ?_, by simp, Or.inr ⟨g, hg, rfl, ?_⟩, ?_, ?_⟩
        · simp [go_sem]
        · simp [go_sem]
        · simp [go_sem]
        · refine ((HROW.out.set 0 _).alloc _).congr fun i _ => ?_
          rw [HD.out]
          unfold sv trimmed
          by_cases e : i = 0
          · rw [if_pos e, if_pos e]
          · rw [if_neg e, if_neg e]
        · exact (HC.out.setOther (fun q hq => fun e => HAB.out _ _ rfl hq e.symm) _).below ((Below.refl _ _).alloc (Nat.le_refl _) _)
        · exact (grownBy_set (World.grownBy.refl w _) rfl _).trans (World.grownBy_alloc _ _ _)
  case rest =>
    obtain ⟨rfl, x0, x1, x2, hbl, hh1, hc1, hgr⟩ := hcut
    obtain ⟨W1, rfl⟩ : ∃ W1 : World, W1 = wc := ⟨_, rfl⟩
    have HH1 := hide hh1
    have HC1 := hide hc1
    have HG1 := hide hgr
    have X1 := hide x1
    have X2 := hide x2
    clear hh1 hc1 hgr x0 x2 HH HC HAB HF HBB
    have hmk := run_make_row' (P := Try.prog) 27 3 (.int .i64 0) 8 Try.underlying27 Try.info3 rfl .i64 .i64 D.m (by omega) (by omega)
    go_wp2_with fail
    clear hmk
    go_loopw [8, 29] (fun _ i wr => ∃ k : Nat, k ≤ D.m ∧ i = .int .i64 k ∧ wr.rowIs W1.heap.size 3 D.m (fun j => if j < k then iv .i64 (fun _ => -1) j else .int .i64 0) ∧ Below W1.heap.size W1 wr) (fun _ i _ => D.m - (intOf i).toNat)
    case atStart => exact ⟨0, Nat.zero_le _, rfl, fill_start W1 _ D.m 3 _, (Below.refl _ _).alloc (Nat.le_refl _) _⟩
    case round =>
      obtain ⟨k, hk, rfl, hrow, hbel⟩ := hrel
      have HR := hide hrow
      have HB := hide hbel
      by_cases hlt : k < D.m
      · have dk : decide ((k : Int) < D.m) = true := by simp; omega
        have hfr : wr.frozen? ⟨W1.heap.size, k, none⟩ = false := hrow.frozen k
        obtain ⟨v0, hce⟩ : ∃ v, wr.cell? ⟨W1.heap.size, k, none⟩ = some v := ⟨_, hrow.cell hlt⟩
        have k0 : (0 : Int) ≤ (k : Int) := by omega
        have k1 : (k : Int) < (D.m : Int) := by omega
        clear hrow hbel
        go_wp2_with fail
        go_roundw
        case rel => exact ⟨k + 1, by omega, by go_num, fill_step (f := iv .i64 (fun _ => -1)) HR.out, HB.out.setCell (Nat.le_refl _) _⟩
        case measure => simp [intOf]; omega
      · obtain rfl : k = D.m := by omega
        have dk : decide ((D.m : Int) < D.m) = false := by simp
        have HR0 := hide (fill_end HR.out)
        obtain ⟨W2, rfl⟩ : ∃ W2 : World, W2 = wr := ⟨_, rfl⟩
        have hl2 := hrow.lt
        clear hrow hbel HR
        obtain ⟨i0, hi, q0, q1, q2⟩ := info_parts Try.info35
        go_wp2_with fail
        go_loopw [6, 9, 10, 11, 38] (fun v _ _ _ i wr => ∃ k : Nat, k ≤ D.n ∧ i = .int .i64 k ∧ Prob wr W2.heap.size v (D.pr k) ∧ wr.rowIs W1.heap.size 3 D.m (iv .i64 (D.ix k)) ∧ Below W1.heap.size W1 wr ∧ W2.heap.size ≤ wr.heap.size) (fun _ _ _ _ i _ => D.n - (intOf i).toNat)
        case atStart => exact ⟨0, Nat.zero_le _, rfl, Prob.nil _ _, HR0.out.congr (fun j _ => rfl), HB.out, Nat.le_refl _⟩
        case round =>
          obtain ⟨k, hk, rfl, hpr, hix, hbe, hsz⟩ := hrel
          have HP := hide hpr
          have HIX := hide hix
          have HBE := hide hbe
          have hW1 : W1.heap.size < wr.heap.size := by omega
          have y1 : wr.cell? ⟨w.heap.size, 1, none⟩ = some (.slice b D.m d) := by rw [hbe.cell hbl]; exact X1.out
          by_cases hlt : k < D.n
          · have dk : decide ((k : Int) < D.n) = true := by simp; omega
            obtain ⟨b1, off1, rfl, hb1, hc1⟩ := HH1.out.rd.below hbe k hlt
            unfold sv at hc1
            have HI : Hid (Calls Try.prog 26 #[.slice b D.m d, .string (D.h k)] wr fun e w' => e = .returned (.int .i64 (D.col k)) ∧ wr = w') := index26 b D.m d D.C (D.h k) wr (by omega) (HC1.out.below hbe)
            have r1 := D.col_range k
            have hpl := D.pr_len k
            have k0 : (0 : Int) ≤ (k : Int) := by omega
            have k1 : (k : Int) < (D.n : Int) := by omega
            clear hpr hix hbe
            by_cases hneg : D.col k < 0
            · have dn : decide (D.col k < 0) = true := decide_eq_true hneg
              have HS := hide (D.pr_unk hneg)
              have HX := hide (D.ix_skip hneg)
              clear hneg r1
              go_wp2_with fail
              refine HI.out.mono ?_
              rintro e w' ⟨rfl, rfl⟩
              go_wp2_with (at_builtin; refine wpList_append_own _ rfl _ _ 30 rfl W2.heap.size 35 i0 (.agg #[.int .i64 0, .string ⟨#[]⟩]) 2 24 Try.underlying30 hi q0 q1 q2 rfl (by decide) _ _ _ rfl (HP.out.1.alloc _) ⟨wr.heap.size, 0, none⟩ 1 1 [.int .i64 1, .string unk] rfl rfl ?c1 ?c2 ?c3 ?c4 ?c5 ?_)
              case c1 => exact two_new _ _ _ _
              case c2 => intro u hu; simp at hu; rcases hu with rfl | rfl <;> rfl
              case c3 => unfold maxLen; omega
              case c4 => omega
              case c5 => simp; omega
              · intro v' w6 hown' hgrow _
                have R1 : Hid (Prob w6 W2.heap.size v' (D.pr (k + 1))) := by
                  show Prob _ _ _ _
                  rw [HS.out]
                  exact Prob.push hown'
                have R2 := hide ((HBE.out.alloc (by omega) _).grown hgrow (by simp; omega) (fun q hq => by have := (HP.out.1.lt q hq).1; omega))
                have R3 : Hid (w6.rowIs W1.heap.size 3 D.m (iv .i64 (D.ix k))) := (HIX.out.alloc _).of_block (hgrow.block _ (by simp; omega) (fun e => by have := (HP.out.1.lt _ e.symm).1; omega))
                have hs6 := hgrow.size
                simp only [World.size_alloc] at hs6
                clear hown' hgrow
                go_wp2_with fail
                go_roundw
                case rel => exact ⟨k + 1, by omega, by go_num, R1.out, R3.out.congr (fun j _ => by show Value.int .i64 _ = Value.int .i64 _; rw [HX.out]), R2.out, by omega⟩
                case measure => simp [intOf]; omega
            · have dn : decide (D.col k < 0) = false := decide_eq_false hneg
              obtain ⟨j, hj⟩ := Int.eq_ofNat_of_zero_le (show 0 ≤ D.col k by omega)
              have hjm : j < D.m := by omega
              have hjt : (D.col k).toNat = j := by omega
              have cj : wr.cell? ⟨W1.heap.size, j, none⟩ = some (.int .i64 (D.ix k j)) := HIX.out.cell hjm
              have fj : wr.frozen? ⟨W1.heap.size, j, none⟩ = false := HIX.out.frozen j
              have j0' : (0 : Int) ≤ (j : Int) := by omega
              have j1' : (j : Int) < (D.m : Int) := by omega
              have dn' : decide ((j : Int) < 0) = false := by simp
              by_cases hge : 0 ≤ D.ix k j
              · have dg : decide (0 ≤ D.ix k j) = true := decide_eq_true hge
                have HS := hide (D.pr_dup (i := k) (by omega) (by rw [hjt]; exact hge))
                have HX := hide (D.ix_keep (i := k) (by rw [hjt]; exact hge) (by omega))
                rw [hj] at HI
                clear hge hj hjt dn hneg r1
                go_wp2_with fail
                refine HI.out.mono ?_
                rintro e w' ⟨rfl, rfl⟩
                go_wp2_with (at_builtin; refine wpList_append_own _ rfl _ _ 30 rfl W2.heap.size 35 i0 (.agg #[.int .i64 0, .string ⟨#[]⟩]) 2 24 Try.underlying30 hi q0 q1 q2 rfl (by decide) _ _ _ rfl (HP.out.1.alloc _) ⟨wr.heap.size, 0, none⟩ 1 1 [.int .i64 1, .string dup] rfl rfl ?c1 ?c2 ?c3 ?c4 ?c5 ?_)
                case c1 => exact two_new _ _ _ _
                case c2 => intro u hu; simp at hu; rcases hu with rfl | rfl <;> rfl
                case c3 => unfold maxLen; omega
                case c4 => omega
                case c5 => simp; omega
                · intro v' w6 hown' hgrow _
                  have R1 : Hid (Prob w6 W2.heap.size v' (D.pr (k + 1))) := by
                    show Prob _ _ _ _
                    rw [HS.out]
                    exact Prob.push hown'
                  have R2 := hide ((HBE.out.alloc (by omega) _).grown hgrow (by simp; omega) (fun q hq => by have := (HP.out.1.lt q hq).1; omega))
                  have R3 : Hid (w6.rowIs W1.heap.size 3 D.m (iv .i64 (D.ix k))) := (HIX.out.alloc _).of_block (hgrow.block _ (by simp; omega) (fun e => by have := (HP.out.1.lt _ e.symm).1; omega))
                  have hs6 := hgrow.size
                  simp only [World.size_alloc] at hs6
                  clear hown' hgrow
                  go_wp2_with fail
                  go_roundw
                  case rel => exact ⟨k + 1, by omega, by go_num, R1.out, R3.out.congr (fun j _ => by show Value.int .i64 _ = Value.int .i64 _; rw [HX.out]), R2.out, by omega⟩
                  case measure => simp [intOf]; omega
              · have dg : decide (0 ≤ D.ix k j) = false := decide_eq_false hge
                have HS := hide (D.pr_ok (i := k) (by omega) (by rw [hjt]; omega))
                have HX := hide (D.ix_new (i := k) (by rw [hjt]; omega) (by omega))
                rw [hj] at HI
                rw [hjt] at HX
                clear hge hj hjt dn hneg r1
                go_wp2_with fail
                refine HI.out.mono ?_
                rintro e w' ⟨rfl, rfl⟩
                go_wp2_with fail
                go_roundw
                case rel =>
                  refine ⟨k + 1, by omega, by go_num, by rw [HS.out]; exact HP.out.setCell (by show W1.heap.size < _; omega) _, (HIX.out.set j _).congr (fun i _ => ?_), HBE.out.setCell (Nat.le_refl _) _, by simpa [World.setCell] using hsz⟩
                  show _ = Value.int .i64 _
                  rw [HX.out]
                  by_cases e : i = j
                  · rw [if_pos e, if_pos e]
                  · rw [if_neg e, if_neg e]; rfl
                case measure => simp [intOf]; omega
          · obtain rfl : k = D.n := by omega
            have dk : decide ((D.n : Int) < D.n) = false := by simp
            have y2 : wr.cell? ⟨w.heap.size, 2, none⟩ = some (.int .i64 D.opt) := by rw [hbe.cell hbl]; exact X2.out
            obtain ⟨t, ht⟩ : ∃ t, D.m - D.opt = t := ⟨_, rfl⟩
            have ht' : (D.m : Int) - D.opt = t := by omega
            have htm : t ≤ D.m := by omega
            have HT := hide ht
            obtain ⟨W3, rfl⟩ : ∃ W3 : World, W3 = wr := ⟨_, rfl⟩
            clear hpr hix hbe ht
            go_wp2_with fail
            go_loopw [6, 13, 77] (fun v _ i wr => ∃ k : Nat, k ≤ t ∧ i = .int .i64 k ∧ Prob wr W2.heap.size v (D.ms k) ∧ wr.rowIs W1.heap.size 3 D.m (iv .i64 (D.ix D.n)) ∧ Below W1.heap.size W1 wr ∧ W2.heap.size ≤ wr.heap.size) (fun _ _ i _ => t - (intOf i).toNat)
            case atStart => exact ⟨0, Nat.zero_le _, rfl, HP.out, HIX.out, HBE.out, hsz⟩
            case round =>
              obtain ⟨k, hk, rfl, hpr, hix, hbe, hsz⟩ := hrel
              have HP := hide hpr
              have HIX := hide hix
              have HBE := hide hbe
              have hW1 : W1.heap.size < wr.heap.size := by omega
              clear hpr hix hbe
              by_cases hlt : k < t
              · have dk : decide ((k : Int) < t) = true := by simp; omega
                have cj : wr.cell? ⟨W1.heap.size, k, none⟩ = some (.int .i64 (D.ix D.n k)) := HIX.out.cell (by omega)
                have k0 : (0 : Int) ≤ (k : Int) := by omega
                have k1 : (k : Int) < (t : Int) := by omega
                have hml := D.ms_len k
                by_cases hneg : D.ix D.n k < 0
                · have dn : decide (D.ix D.n k < 0) = true := decide_eq_true hneg
                  have HS := hide (D.ms_mis hneg)
                  clear hneg
                  go_wp2_with (at_builtin; refine wpList_append_own _ rfl _ _ 30 rfl W2.heap.size 35 i0 (.agg #[.int .i64 0, .string ⟨#[]⟩]) 2 24 Try.underlying30 hi q0 q1 q2 rfl (by decide) _ _ _ rfl (HP.out.1.alloc _) ⟨wr.heap.size, 0, none⟩ 1 1 [.int .i64 1, .string mis] rfl rfl ?c1 ?c2 ?c3 ?c4 ?c5 ?_)
                  case c1 => exact two_new _ _ _ _
                  case c2 => intro u hu; simp at hu; rcases hu with rfl | rfl <;> rfl
                  case c3 => unfold maxLen; omega
                  case c4 => omega
                  case c5 => simp; omega
                  · intro v' w6 hown' hgrow _
                    have R1 : Hid (Prob w6 W2.heap.size v' (D.ms (k + 1))) := by
                      show Prob _ _ _ _
                      rw [HS.out]
                      exact Prob.push hown'
                    have R2 := hide ((HBE.out.alloc (by omega) _).grown hgrow (by simp; omega) (fun q hq => by have := (HP.out.1.lt q hq).1; omega))
                    have R3 : Hid (w6.rowIs W1.heap.size 3 D.m (iv .i64 (D.ix D.n))) := (HIX.out.alloc _).of_block (hgrow.block _ (by simp; omega) (fun e => by have := (HP.out.1.lt _ e.symm).1; omega))
                    have hs6 := hgrow.size
                    simp only [World.size_alloc] at hs6
                    clear hown' hgrow
                    go_wp2_with fail
                    go_roundw
                    case rel => exact ⟨k + 1, by omega, by go_num, R1.out, R3.out, R2.out, by omega⟩
                    case measure => simp [intOf]; omega
                · have dn : decide (D.ix D.n k < 0) = false := decide_eq_false hneg
                  have HS := hide (D.ms_ok (c := k) (by omega))
                  clear hneg
                  go_wp2_with fail
                  go_roundw
                  case rel => exact ⟨k + 1, by omega, by go_num, by rw [HS.out]; exact HP.out, HIX.out, HBE.out, hsz⟩
                  case measure => simp [intOf]; omega
              · obtain rfl : k = t := by omega
                have dk : decide ((k : Int) < k) = false := by simp
                have HFU : Hid (D.ms k = D.full) := by rw [Hid, ← HT.out]; rfl
                obtain ⟨av, cv, rfl, _⟩ := HP.out.read
                go_wp2_with fail
                exact bodyPost_ret (v := .tuple #[.slice (some ⟨W1.heap.size, 0, none⟩) D.m D.m, .slice av (D.ms k).length cv]) (by simp [results, Try.results23, go_sem]) rfl ⟨⟨_, _, _, rfl, HIX.out, by rw [← HFU.out]; exact HP.out⟩, HH1.out.below HBE.out, grownBy_below HG1.out HBE.out⟩

set_option maxHeartbeats 1000000 in
theorem zzhead14 (D : Hd) (a b : Option Addr) (c d B : Nat) (h0 : Nat → ByteArray) (what : ByteArray) (w : World) (hn : D.n ≤ 4096) (hm : D.m ≤ 4096) (ho : D.opt ≤ D.m) (hD : D.h = trimmed h0) (hf : Fit D.n h0)
    (hh : Rw B w a 9 D.n (sv h0)) (hc : Rd w b D.m (sv D.C)) (hab : ∀ p q, a = some p → b = some q → p.block ≠ q.block) :
    Calls Try.prog 14 #[.slice a D.n c, .string what, .slice b D.m d, .int .i64 D.opt] w fun e w' =>
      (∃ gi v base, e = .returned (.tuple #[.slice (some ⟨gi, 0, none⟩) D.m D.m, v]) ∧ w'.rowIs gi 3 D.m (iv .i64 (D.ix D.n)) ∧ Prob w' base v D.full) ∧ Rw B w' a 9 D.n (sv D.h) ∧ w.grownBy w' (a.map (·.block)) := by
  have HC := hide (head23 D a b c d B h0 what w hn hm ho hD hf hh hc hab)
  clear hn hm ho hD hf hh hc hab
  go_enter Try.func14, Try.ntmps14
  go_wp2_with fail
  refine HC.out.mono ?_
  rintro e w' ⟨⟨gi, v, base, rfl, hix, hpr⟩, hh, hg⟩
  have HIX := hide hix
  have HP := hide hpr
  have HH := hide hh
  have HG := hide hg
  clear hix hpr hh hg
  obtain ⟨av, cv, rfl, _⟩ := HP.out.read
  go_wp2_with fail
  exact bodyPost_ret (v := .tuple #[.slice (some ⟨gi, 0, none⟩) D.m D.m, .slice av D.full.length cv]) (by simp [results, Try.results14, go_sem]) rfl ⟨⟨_, _, _, rfl, HIX.out, HP.out⟩, HH.out, HG.out⟩
end Go.Proofs.Qxb6604019a
