/-
  THE PLAIN LAW of FnReadOffsetTable: which of the 2880 texts a string is, and that readOffset answers for just that one. Seat b6603915a.
-/
import Derived.Test.Qxb6603915aOffs
namespace Go.Proofs.Qxb6603915a.fnReadOffsetTable
open Go.ChangeShapes Go.WideShapes Go.ChangeAt Go.RowKit
set_option linter.unusedVariables false

/-- The place of a text in the table's order. -/
def idx (b : Bool) (h m : Nat) : Nat := (if b then 1440 else 0) + h * 60 + m
/-- The seconds that the table gives at place t. -/
def secOf (t : Nat) : Int := if t < 1440 then (t : Int) / 60 * 3600 + (t : Int) % 60 * 60 else -(((t : Int) - 1440) / 60 * 3600 + (t : Int) % 60 * 60)
/-- What 'wantSec' and 'wantOK' hold when the first n places have been looked at and t is the string's place. -/
def secAt (t n : Nat) : Int := if t < n then secOf t else 0
def okAt (t n : Nat) : Bool := decide (t < n)

theorem byte_eq (c : UInt8) (x : Int) (h0 : 0 ≤ x) (h1 : x ≤ 255) : UInt8.ofNat x.toNat = c ↔ (c.toNat : Int) = x := by
  rw [← UInt8.toNat_inj]
  have : (UInt8.ofNat x.toNat).toNat = x.toNat := by simp [UInt8.toNat_ofNat']; omega
  rw [this]
  omega

theorem list6 {α : Type} (l : List α) (h : l.length = 6) : ∃ a b c d e f, l = [a, b, c, d, e, f] := by
  match l, h with
  | [a, b, c, d, e, f], _ => exact ⟨a, b, c, d, e, f, rfl⟩

theorem eq6 (s : ByteArray) (h6 : s.size = 6) (b : Bool) (h m : Int) (h0 : 0 ≤ h) (h1 : h < 100) (m0 : 0 ≤ m) (m1 : m < 100) :
    (strOfNums (rend b h m)).toList = s.toList ↔ ((s[0]'(by omega)).toNat : Int) = (if b then 45 else 43) ∧ ((s[1]'(by omega)).toNat : Int) = 48 + h / 10 ∧ ((s[2]'(by omega)).toNat : Int) = 48 + h % 10 ∧
      ((s[3]'(by omega)).toNat : Int) = 58 ∧ ((s[4]'(by omega)).toNat : Int) = 48 + m / 10 ∧ ((s[5]'(by omega)).toNat : Int) = 48 + m % 10 := by
  rw [ByteArray.toList_eq, ByteArray.toList_eq, strOfNums_data]
  obtain ⟨⟨l⟩⟩ := s
  obtain ⟨c0, c1, c2, c3, c4, c5, rfl⟩ := list6 l (by simpa [ByteArray.size] using h6)
  show (rend b h m).map (fun n => UInt8.ofNat n.toNat) = [c0, c1, c2, c3, c4, c5] ↔ ((c0.toNat : Int) = _ ∧ (c1.toNat : Int) = _ ∧ (c2.toNat : Int) = _ ∧ (c3.toNat : Int) = _ ∧ (c4.toNat : Int) = _ ∧ (c5.toNat : Int) = _)
  simp only [rend, List.map_cons, List.map_nil, List.cons.injEq, and_true]
  rw [byte_eq c0 _ (by split <;> omega) (by split <;> omega), byte_eq c1 _ (by omega) (by omega), byte_eq c2 _ (by omega) (by omega), byte_eq c3 _ (by omega) (by omega), byte_eq c4 _ (by omega) (by omega), byte_eq c5 _ (by omega) (by omega)]

/-- The string is at no place. -/
def NoPlace (s : ByteArray) : Prop := ∀ (b : Bool) (h m : Nat), h < 24 → m < 60 → (strOfNums (rend b h m)).toList ≠ s.toList

theorem target_none (s : ByteArray) (hr : RoSays s 0 false) (hn : NoPlace s) : ∃ t : Nat, t ≤ 2880 ∧ RoSays s (secAt t 2880) (okAt t 2880) ∧
    ∀ (b : Bool) (h m : Nat), h < 24 → m < 60 → ((strOfNums (rend b h m)).toList == s.toList) = decide (idx b h m = t) := by
  refine ⟨2880, by omega, ?_, ?_⟩
  · have e1 : secAt 2880 2880 = 0 := by simp [secAt]
    have e2 : okAt 2880 2880 = false := by simp [okAt]
    rw [e1, e2]
    exact hr
  · intro b h m hh hm
    have e1 : ((strOfNums (rend b h m)).toList == s.toList) = false := by
      have := hn b h m hh hm
      simpa using this
    have e2 : idx b h m ≠ 2880 := by
      unfold idx
      split <;> omega
    rw [e1]
    simp [e2]

theorem target (s : ByteArray) (hs : s.size ≤ 1048576) : ∃ t : Nat, t ≤ 2880 ∧ RoSays s (secAt t 2880) (okAt t 2880) ∧
    ∀ (b : Bool) (h m : Nat), h < 24 → m < 60 → ((strOfNums (rend b h m)).toList == s.toList) = decide (idx b h m = t) := by
  by_cases h6 : s.size = 6
  · obtain ⟨c0, h0⟩ : ∃ c0 : Int, ((s[0]'(by omega)).toNat : Int) = c0 := ⟨_, rfl⟩
    obtain ⟨c1, h1⟩ : ∃ c1 : Int, ((s[1]'(by omega)).toNat : Int) = c1 := ⟨_, rfl⟩
    obtain ⟨c2, h2⟩ : ∃ c2 : Int, ((s[2]'(by omega)).toNat : Int) = c2 := ⟨_, rfl⟩
    obtain ⟨c3, h3⟩ : ∃ c3 : Int, ((s[3]'(by omega)).toNat : Int) = c3 := ⟨_, rfl⟩
    obtain ⟨c4, h4⟩ : ∃ c4 : Int, ((s[4]'(by omega)).toNat : Int) = c4 := ⟨_, rfl⟩
    obtain ⟨c5, h5⟩ : ∃ c5 : Int, ((s[5]'(by omega)).toNat : Int) = c5 := ⟨_, rfl⟩
    have key : ∀ (b : Bool) (h m : Nat), h < 24 → m < 60 → ((strOfNums (rend b h m)).toList = s.toList ↔ c0 = (if b then 45 else 43) ∧ c1 = 48 + (h : Int) / 10 ∧ c2 = 48 + (h : Int) % 10 ∧ c3 = 58 ∧ c4 = 48 + (m : Int) / 10 ∧ c5 = 48 + (m : Int) % 10) := by
      intro b h m hh hm
      rw [eq6 s h6 b h m (by omega) (by omega) (by omega) (by omega), h0, h1, h2, h3, h4, h5]
    have e1 : (s.extract 1 3).size = 2 := by simp; omega
    have e2 : (s.extract 4 6).size = 2 := by simp; omega
    have dA := dec_says (s.extract 1 3) e1 c1 c2 (by rw [ByteArray.getElem_extract]; exact h1) (by rw [ByteArray.getElem_extract]; exact h2)
    have dB := dec_says (s.extract 4 6) e2 c4 c5 (by rw [ByteArray.getElem_extract]; exact h4) (by rw [ByteArray.getElem_extract]; exact h5)
    by_cases hp : c0 = 43 ∨ c0 = 45
    · by_cases hc : c3 = 58
      · subst hc
        rcases dA with ⟨a1, a2, a3, a4, HA⟩ | ⟨na, HA⟩
        · rcases dB with ⟨b1, b2, b3, b4, HB⟩ | ⟨nb, HB⟩
          · by_cases hbig : 23 < (c1 - 48) * 10 + (c2 - 48) ∨ 59 < (c4 - 48) * 10 + (c5 - 48)
            · refine target_none s (fun w => ro_big s h6 c0 _ _ _ _ w h0 h3 hp HA HB (by omega) (by omega) (by omega) (by omega) (Or.inr (Or.inr hbig))) ?_
              intro b h m hh hm e
              have := (key b h m hh hm).1 e
              omega
            · -- a text of the table
              obtain ⟨n, hn⟩ : ∃ n : Nat, (n : Int) = (c1 - 48) * 10 + (c2 - 48) := ⟨((c1 - 48) * 10 + (c2 - 48)).toNat, by omega⟩
              obtain ⟨m, hm⟩ : ∃ m : Nat, (m : Int) = (c4 - 48) * 10 + (c5 - 48) := ⟨((c4 - 48) * 10 + (c5 - 48)).toNat, by omega⟩
              rcases hp with hp | hp
              · refine ⟨n * 60 + m, by omega, ?_, ?_⟩
                · have q1 : secAt (n * 60 + m) 2880 = ((c1 - 48) * 10 + (c2 - 48)) * 3600 + ((c4 - 48) * 10 + (c5 - 48)) * 60 := by
                    unfold secAt secOf
                    rw [if_pos (by omega), if_pos (by omega)]
                    omega
                  have q2 : okAt (n * 60 + m) 2880 = true := by simp [okAt]; omega
                  rw [q1, q2]
                  subst hp
                  exact fun w => ro_plus s h6 _ _ w h0 h3 HA HB (by omega) (by omega) (by omega) (by omega)
                · intro b h m' hh hm'
                  have k := key b h m' hh hm'
                  rw [Bool.eq_iff_iff, beq_iff_eq, k, decide_eq_true_iff]
                  unfold idx
                  cases b
                  · rw [if_neg (by simp), if_neg (by simp)]; clear k key; omega
                  · rw [if_pos rfl, if_pos rfl]; clear k key; omega
              · refine ⟨1440 + n * 60 + m, by omega, ?_, ?_⟩
                · have q1 : secAt (1440 + n * 60 + m) 2880 = -(((c1 - 48) * 10 + (c2 - 48)) * 3600 + ((c4 - 48) * 10 + (c5 - 48)) * 60) := by
                    unfold secAt secOf
                    rw [if_pos (by omega), if_neg (by omega)]
                    omega
                  have q2 : okAt (1440 + n * 60 + m) 2880 = true := by simp [okAt]; omega
                  rw [q1, q2]
                  subst hp
                  exact fun w => ro_minus s h6 _ _ w h0 h3 HA HB (by omega) (by omega) (by omega) (by omega)
                · intro b h m' hh hm'
                  have k := key b h m' hh hm'
                  rw [Bool.eq_iff_iff, beq_iff_eq, k, decide_eq_true_iff]
                  unfold idx
                  cases b
                  · rw [if_neg (by simp), if_neg (by simp)]; clear k key; omega
                  · rw [if_pos rfl, if_pos rfl]; clear k key; omega
          · refine target_none s (fun w => ro_big s h6 c0 _ _ _ _ w h0 h3 hp HA HB (by omega) (by omega) (by omega) (by omega) (Or.inr (Or.inl rfl))) ?_
            intro b h m hh hm e
            have := (key b h m hh hm).1 e
            omega
        · rcases dB with ⟨b1, b2, b3, b4, HB⟩ | ⟨nb, HB⟩
          · refine target_none s (fun w => ro_big s h6 c0 _ _ _ _ w h0 h3 hp HA HB (by omega) (by omega) (by omega) (by omega) (Or.inl rfl)) ?_
            intro b h m hh hm e
            have := (key b h m hh hm).1 e
            omega
          · refine target_none s (fun w => ro_big s h6 c0 _ _ _ _ w h0 h3 hp HA HB (by omega) (by omega) (by omega) (by omega) (Or.inl rfl)) ?_
            intro b h m hh hm e
            have := (key b h m hh hm).1 e
            omega
      · refine target_none s (fun w => ro_c3 s h6 c0 c3 w h0 h3 hp (by simpa using hc)) ?_
        intro b h m hh hm e
        have := (key b h m hh hm).1 e
        omega
    · refine target_none s (fun w => ro_c0 s h6 c0 w h0 (by simp; omega) (by simp; omega)) ?_
      intro b h m hh hm e
      have := ((key b h m hh hm).1 e).1
      split at this <;> omega
  · refine target_none s (fun w => ro_size s hs (by simp; omega) w) ?_
    intro b h m hh hm e
    apply h6
    have := congrArg List.length e
    rw [ByteArray.toList_eq, ByteArray.toList_eq, strOfNums_data, List.length_map] at this
    have h6' : (rend b h m).length = 6 := rfl
    rw [h6'] at this
    show s.data.size = 6
    rw [← Array.length_toList]
    exact this.symm

end Go.Proofs.Qxb6603915a.fnReadOffsetTable
