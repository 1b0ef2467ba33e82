/-
  A PROOF OF 'Rows.FnPreferredMatchesBlockByBlockModelSaid' ('example.com/endstate/endstate/zzlaws_pkg_analysis_b1.FnPreferredMatchesBlockByBlockModel'): the frame is after the guide's (proof-skeleton.mjs); the walk is in PrefLaw.
-/
import Derived.Test.Qxb6604014aPrefLaw
import Derived.Deep.Matrix
import Derived.Lib.JoinLaws
import Derived.WalkKit
import Derived.ProofKit
import Derived.OpenShut
import Derived.ShutString
import Derived.ChangeOld
import Derived.Below
namespace Go.Proofs.Qxb6604014a.fnPreferredMatchesBlockByBlockModel
open Go.ChangeShapes Go.WideShapes Go.ChangeAt Go.RowKit
set_option linter.unusedVariables false

theorem own : ownKnob Try.prog.godebug = none := by kernel_rfl
theorem laidOut : laidOutB Try.prog = true := by kernel_rfl

theorem cell_lt {w : World} {a : Addr} {v : Value} (h : w.cell? a = some v) : a.block < w.heap.size := by
  rcases Nat.lt_or_ge a.block w.heap.size with h1 | h1
  · exact h1
  · have e : w.heap[a.block]? = none := Array.getElem?_eq_none h1
    simp [World.cell?, e] at h
/-- A row of cells at an address, as a reader sees it. -/
theorem rd_of_cells {w : World} {x : Addr} {n : Nat} {f : Nat → Value} (h : ∀ i, i < n → w.cell? (x.add i) = some (f i)) : Rd w (some x) n f := by
  intro i hi
  obtain ⟨b, off, spot⟩ := x
  have hs : spot = none := by simpa [Addr.add] using World.cell?_spot (h 0 (by omega))
  subst hs
  have h1 := h i hi
  rw [add_plain] at h1
  exact ⟨b, off, rfl, cell_lt h1, h1⟩

section
variable {H : Type} {enc : TypeId × Value → H} {w : World} {held : Bool}

/-- The blocks, opened. -/
theorem open_blocks {fuel : Nat} {a : Option Addr} {n c : Nat} {x : DataW H × List MemPlace} (h : DataW.trod enc Try.prog w 0 (fun _ => true) held fuel 22 [.slice a n c] = some x) :
    ∃ (L : Nat → Nat) (z : Nat → Nat → Int), n ≤ maxLen ∧ (∀ i, i < n → L i ≤ maxLen) ∧ Bl w a n L z := by
  rcases Go.Deep.open_int_rows Try.underlying22 Try.underlying35 Try.underlying3 (by kernel_rfl) (by kernel_rfl) h with ⟨hcs, _⟩ | ⟨a', len, cap, A, L, C, Z, hcs, _, hl, hm, _, hr⟩
  · simp at hcs
    obtain ⟨rfl, rfl, rfl⟩ := hcs
    exact ⟨fun _ => 0, fun _ _ => 0, Nat.zero_le _, fun i hi => by omega, fun _ => none, fun _ => 0, Rd.zero _ _ _, fun i hi => by omega⟩
  · simp at hcs
    obtain ⟨rfl, rfl, rfl⟩ := hcs
    refine ⟨L, fun i j => (Z i).getD j 0, Nat.le_trans hl hm, fun i hi => ?_, A, C, rd_of_cells (fun i hi => (hr i (by omega)).1), fun i hi => ?_⟩
    · obtain ⟨_, h1, h2, _⟩ := hr i (by omega)
      omega
    · obtain ⟨_, h1, h2, h3, h4, h5, h6⟩ := hr i (by omega)
      cases hA : A i with
      | none =>
        have := h5 hA
        have e : L i = 0 := by omega
        rw [e]
        exact Rd.zero _ _ _
      | some y => exact rd_of_cells (fun j hj => (h6 y hA).2 j (by omega))

/-- A slice of elements of two cells, opened. -/
theorem open_two {t e : TypeId} {fuel : Nat} {a : Option Addr} {n c : Nat} {x : DataW H × List MemPlace} {Q : Value × Value → Prop} (ht : Try.prog.underlying t = some (.slice e)) (ce : Try.prog.cellsOf e = 2)
    (h : DataW.trod enc Try.prog w 0 (fun _ => true) held fuel t [.slice a n c] = some x)
    (key : ∀ m c0 c1 y, DataW.trod enc Try.prog w 0 (fun _ => true) held m e [c0, c1] = some y → Q (c0, c1)) :
    ∃ F : Nat → Value × Value, n ≤ maxLen ∧ Rd2 w a n (fun i => (F i).1) (fun i => (F i).2) ∧ ∀ i, i < n → Q (F i) := by
  rcases Go.Deep.open_slice ht h with ⟨hcs, _⟩ | ⟨a', len, cap, m, k, D, Pl, hcs, _, hl, hm, hmm, _, hx⟩
  · simp at hcs
    obtain ⟨rfl, rfl, rfl⟩ := hcs
    exact ⟨fun _ => (.bool true, .bool true), Nat.zero_le _, fun i hi => by omega, fun i hi => by omega⟩
  · simp at hcs
    obtain ⟨rfl, rfl, rfl⟩ := hcs
    have each : ∀ i, ∃ p : Value × Value, i < n → (w.cell? (a'.add (i * 2)) = some p.1 ∧ w.cell? (a'.add (i * 2 + 1)) = some p.2 ∧ Q p) := by
      intro i
      by_cases hi : i < n
      · obtain ⟨cs', h1, h2⟩ := hx i (by simp only [if_true] at hmm; omega)
        rw [ce] at h1
        obtain ⟨_, hlen, hc⟩ := World.cells?_some h1
        match cs', hlen with
        | [c0, c1], _ =>
          have e0 := hc 0 (by omega)
          have e1 := hc 1 (by omega)
          refine ⟨(c0, c1), fun _ => ⟨?_, ?_, key _ c0 c1 _ h2⟩⟩
          · simpa [Addr.add] using e0
          · have e : (a'.add (i * 2)).add 1 = a'.add (i * 2 + 1) := by
              unfold Addr.add
              by_cases hz : i * 2 = 0
              · simp [hz]
              · simp [hz, Nat.add_assoc]
            rw [← e]
            simpa using e1
      · exact ⟨(.bool true, .bool true), fun h => absurd h hi⟩
    obtain ⟨F, hF⟩ : ∃ F : Nat → Value × Value, ∀ i, i < n → (w.cell? (a'.add (i * 2)) = some (F i).1 ∧ w.cell? (a'.add (i * 2 + 1)) = some (F i).2 ∧ Q (F i)) :=
      ⟨fun i => Classical.choose (each i), fun i => Classical.choose_spec (each i)⟩
    refine ⟨F, Nat.le_trans hl hm, fun i hi => ?_, fun i hi => (hF i hi).2.2⟩
    obtain ⟨b, off, spot⟩ := a'
    have hs : spot = none := by simpa [Addr.add] using World.cell?_spot (hF 0 (by omega)).1
    subst hs
    obtain ⟨h1, h2, _⟩ := hF i hi
    rw [add_plain] at h1 h2
    exact ⟨b, off, rfl, cell_lt h1, h1, h2⟩

theorem open_pairs {fuel : Nat} {a : Option Addr} {n c : Nat} {x : DataW H × List MemPlace} (h : DataW.trod enc Try.prog w 0 (fun _ => true) held fuel 23 [.slice a n c] = some x) :
    ∃ f g : Nat → Int, n ≤ maxLen ∧ Rd2 w a n (iv .i64 f) (iv .i64 g) := by
  obtain ⟨F, hn, hr, hq⟩ := open_two (Q := fun p => ∃ u v, p = (.int .i64 u, .int .i64 v)) Try.underlying23 (by kernel_rfl) h (by
    intro m c0 c1 y hy
    obtain ⟨xs, k, _, _, _, hl, hx⟩ := DataW.trod_array Try.underlying47 hy
    have ce : Try.prog.cellsOf 3 = 1 := by kernel_rfl
    match xs, hl with
    | [y0, y1], _ =>
      have h0 := hx 0 (by omega)
      have h1 := hx 1 (by omega)
      rw [ce] at h0 h1
      obtain ⟨u, hu, _⟩ := DataW.trod_int Try.underlying3 (x := y0) (by simpa using h0)
      obtain ⟨v, hv, _⟩ := DataW.trod_int Try.underlying3 (x := y1) (by simpa using h1)
      simp at hu hv
      exact ⟨u, v, by rw [hu, hv]⟩)
  refine ⟨fun i => if h : i < n then Classical.choose (hq i h) else 0, fun i => if h : i < n then Classical.choose (Classical.choose_spec (hq i h)) else 0, hn, fun i hi => ?_⟩
  obtain ⟨b, off, ha, hb, h1, h2⟩ := hr i hi
  have e := Classical.choose_spec (Classical.choose_spec (hq i hi))
  refine ⟨b, off, ha, hb, ?_, ?_⟩
  · rw [h1]; show some (F i).1 = _; rw [e]; simp [iv, hi]
  · rw [h2]; show some (F i).2 = _; rw [e]; simp [iv, hi]

theorem open_services {fuel : Nat} {a : Option Addr} {n c : Nat} {x : DataW H × List MemPlace} (h : DataW.trod enc Try.prog w 0 (fun _ => true) held fuel 24 [.slice a n c] = some x) :
    ∃ (o : Nat → Int) (l : Nat → Bool), n ≤ maxLen ∧ (∀ i, i < n → 0 ≤ o i ∧ o i ≤ 255) ∧ Rd2 w a n (iv .u8 o) (bv l) := by
  obtain ⟨F, hn, hr, hq⟩ := open_two (Q := fun p => ∃ (u : Int) (v : Bool), p = (.int .u8 u, .bool v) ∧ 0 ≤ u ∧ u ≤ 255) Try.underlying24 (by kernel_rfl) h (by
    intro m c0 c1 y hy
    obtain ⟨y0, y1, k, _, _, h0, h1⟩ := trod_struct2 Try.underlying49 hy
    have ce : Try.prog.cellsOf 5 = 1 := by kernel_rfl
    have ce' : Try.prog.cellsOf 4 = 1 := by kernel_rfl
    simp only [ce] at h0
    simp only [ce'] at h1
    obtain ⟨u, hu, _, hw⟩ := DataW.trod_int Try.underlying5 (x := y0) (by simpa using h0)
    obtain ⟨v, hv, _⟩ := DataW.trod_bool Try.underlying4 (x := y1) (by simpa using h1)
    simp at hu hv
    have b := bounds_u8 hw
    exact ⟨u, v, by rw [hu, hv], b.1, by have := b.2; omega⟩)
  refine ⟨fun i => if h : i < n then Classical.choose (hq i h) else 0, fun i => if h : i < n then Classical.choose (Classical.choose_spec (hq i h)) else false, hn, fun i hi => ?_, fun i hi => ?_⟩
  · have e := Classical.choose_spec (Classical.choose_spec (hq i hi))
    simp only [dif_pos hi]
    exact e.2
  · obtain ⟨b, off, ha, hb, h1, h2⟩ := hr i hi
    have e := Classical.choose_spec (Classical.choose_spec (hq i hi))
    refine ⟨b, off, ha, hb, ?_, ?_⟩
    · rw [h1]; show some (F i).1 = _; rw [e.1]; simp [iv, hi]
    · rw [h2]; show some (F i).2 = _; rw [e.1]; simp [bv, hi]
end

set_option maxRecDepth 100000 in
theorem lifted (os : Os) (started : os.Started) (H : Type) (enc : TypeId × Value → H) :
    ReturnsInHanded {} Try.checked os 3 .any (Rows.fnPreferredMatchesBlockByBlockModelSpec.pre6 enc Try.prog Try.f3 Rows.fnPreferredMatchesBlockByBlockModelRow.domain false) (Rows.fnPreferredMatchesBlockByBlockModelSpec.post enc Try.prog Try.f3 false true false false) := by
  refine returnsInHanded_of_change (C := Try.checked) own started (by kernel_rfl) Try.func3
    (ChangeSpec.witness6 (enc := enc) (C := Try.checked) false ⟨#[], #[.slice none 0 0, .slice none 0 0, .slice none 0 0], []⟩ 8 (by kernel_rfl) (by kernel_rfl) (by kernel_rfl) (by kernel_rfl)) ?_
  intro W base args ds gs before hval0 hW hcnd _
  have hval : ∀ (j : Nat) t v, Try.f3.params[j]? = some t → args[j]? = some v → Value.okWide Try.prog W .any base t v := hval0
  have hW' := hW
  obtain ⟨p, q, hA0, hV, rfl, hfz, hnd⟩ := hW
  have hA : DataW.TrodAll enc Try.prog W 0 (fun _ => true) true Try.f3.params.toList args.toList ds p := hA0
  rw [Try.params3] at hA hval
  obtain ⟨v0, vs0, d0, ds0, p0, q0, hargs, rfl, rfl, h0, r0⟩ := trodAll_cons hA
  obtain ⟨v1, vs1, d1, ds1, p1, q1, rfl, rfl, rfl, h1, r1⟩ := trodAll_cons r0
  obtain ⟨v2, vs2, d2, ds2, p2, q2, rfl, rfl, rfl, h2, r2⟩ := trodAll_cons r1
  obtain ⟨rfl, rfl, rfl⟩ := trodAll_nil r2
  obtain rfl : args = #[v0, v1, v2] := by cases args; simp_all
  obtain ⟨rfl, rfl⟩ := trodVars_none hV
  obtain ⟨a0, len0, cap0, rfl⟩ := okWide_slice Try.underlying22 (hval 0 22 v0 rfl rfl)
  obtain ⟨a1, len1, cap1, rfl⟩ := okWide_slice Try.underlying23 (hval 1 23 v1 rfl rfl)
  obtain ⟨a2, len2, cap2, rfl⟩ := okWide_slice Try.underlying24 (hval 2 24 v2 rfl rfl)
  have k0 := h0
  have lt0 : ∀ x ∈ p0, x.block < W.heap.size := by obtain ⟨m, hm⟩ := k0; exact DataW.trod_lt m _ _ _ hm
  have k1 := h1
  have lt1 : ∀ x ∈ p1, x.block < W.heap.size := by obtain ⟨m, hm⟩ := k1; exact DataW.trod_lt m _ _ _ hm
  have k2 := h2
  have lt2 : ∀ x ∈ p2, x.block < W.heap.size := by obtain ⟨m, hm⟩ := k2; exact DataW.trod_lt m _ _ _ hm
  obtain ⟨f0, hf0⟩ := h0
  obtain ⟨f1, hf1⟩ := h1
  obtain ⟨f2, hf2⟩ := h2
  obtain ⟨L, c, m0, mL, hbl⟩ := open_blocks (by simpa [Value.cells] using hf0)
  obtain ⟨f, g, m1, hpr⟩ := open_pairs (by simpa [Value.cells] using hf1)
  obtain ⟨o, l, m2, ho, hsv⟩ := open_services (by simpa [Value.cells] using hf2)
  clear hA0 hval0
  refine (law3 ⟨len0, L, c, len1, f, g, len2, o, l⟩ a0 a1 a2 cap0 cap1 cap2 W m0 m1 m2 mL ho hbl hpr hsv).mono fun e W' ⟨he, bel⟩ => ?_
  subst he
  exact ⟨_, rfl, _, _, _, [], _, [], hW', trodAll_mk1 (shut_bool Try.underlying4 _), (trodAll_cons_mk (Below.trod laidOut (by kernel_rfl) (of_decide_eq_true (by kernel_rfl)) k0 bel lt0) (trodAll_cons_mk (Below.trod laidOut (by kernel_rfl) (of_decide_eq_true (by kernel_rfl)) k1 bel lt1) (trodAll_cons_mk (Below.trod laidOut (by kernel_rfl) (of_decide_eq_true (by kernel_rfl)) k2 bel lt2) trodAll_mk0))), rfl, bel.frame _, fun h => by cases h⟩

theorem over : Rows.fnPreferredMatchesBlockByBlockModelRow.holds Try.pinned (OpenSpec.ofChange Rows.fnPreferredMatchesBlockByBlockModelSpec) :=
  OpenClaim.holds_of_wide 3 Try.f3 rfl rfl rfl rfl rfl rfl rfl ⟨rfl, rfl, rfl, rfl, rfl⟩ rfl rfl rfl rfl rfl (by kernel_rfl) Try.func3 (by kernel_rfl)
    (of_decide_eq_true (by kernel_rfl)) (by unfold Func.isWrapper; first | (rw [if_pos (by decide +kernel)]; kernel_rfl) | (rw [if_neg (by decide +kernel)]; exact ⟨rfl, rfl⟩))
    (fun os started H enc _ => lifted os started H enc)

/-- ████ THE STATEMENT ████ -/
theorem proved : Rows.FnPreferredMatchesBlockByBlockModelSaid := over
#print axioms proved
end Go.Proofs.Qxb6604014a.fnPreferredMatchesBlockByBlockModel
