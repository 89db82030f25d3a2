/-
  PLAIN FACTS for seat b6632316a: the order of execute actions; which of a list win. No program in sight.
-/
import GoSem.Op.String
namespace Go.Proofs.Qxb6632316a
open Go
set_option linter.unusedVariables false

/-- One execute action. -/
structure Rec where
  act : ByteArray
  pri : Int
  id : ByteArray

/-! ### The order of byte strings -/
theorem less_irrefl : ∀ x : List UInt8, Op.bytesLess x x = false
  | [] => rfl
  | a :: x => by simp [Op.bytesLess, less_irrefl x]
theorem less_trans : ∀ x y z : List UInt8, Op.bytesLess x y = true → Op.bytesLess y z = true → Op.bytesLess x z = true
  | _, [], _ => by intro h; simp [Op.bytesLess] at h
  | _, _ :: _, [] => by intro _ h; simp [Op.bytesLess] at h
  | [], _ :: _, _ :: _ => by intro _ _; rfl
  | a :: x, b :: y, c :: z => by
    intro h1 h2
    simp only [Op.bytesLess, Bool.or_eq_true, decide_eq_true_eq, Bool.and_eq_true, beq_iff_eq] at h1 h2 ⊢
    rcases h1 with h1 | ⟨rfl, h1⟩
    · rcases h2 with h2 | ⟨rfl, h2⟩
      · left; exact UInt8.lt_trans h1 h2
      · left; exact h1
    · rcases h2 with h2 | ⟨rfl, h2⟩
      · left; exact h2
      · right; exact ⟨rfl, less_trans x y z h1 h2⟩
theorem less_total : ∀ x y : List UInt8, Op.bytesLess x y = true ∨ x = y ∨ Op.bytesLess y x = true
  | [], [] => .inr (.inl rfl)
  | [], _ :: _ => .inl rfl
  | _ :: _, [] => .inr (.inr rfl)
  | a :: x, b :: y => by
    simp only [Op.bytesLess, Bool.or_eq_true, decide_eq_true_eq, Bool.and_eq_true, beq_iff_eq]
    have htri : a < b ∨ a = b ∨ b < a := by
      rcases Nat.lt_trichotomy a.toNat b.toNat with h | h | h
      · exact .inl (UInt8.lt_iff_toNat_lt.2 h)
      · exact .inr (.inl (UInt8.toNat_inj.1 h))
      · exact .inr (.inr (UInt8.lt_iff_toNat_lt.2 h))
    rcases htri with h | h | h
    · exact .inl (.inl h)
    · subst h
      rcases less_total x y with h | h | h
      · exact .inl (.inr ⟨rfl, h⟩)
      · exact .inr (.inl (by rw [h]))
      · exact .inr (.inr (.inr ⟨rfl, h⟩))
    · exact .inr (.inr (.inl h))

/-! ### The weight of an action; the order of execute actions -/
def wt (s : ByteArray) : Int := if (s.toList == [98, 108, 111, 99, 107]) = true then 1 else if (s.toList == [97, 108, 108, 111, 119]) = true then 3 else 2
theorem wt_bd (s : ByteArray) : 1 ≤ wt s ∧ wt s ≤ 3 := by
  unfold wt
  split
  · omega
  · split <;> omega
theorem wt_congr {s t : ByteArray} (h : s.toList = t.toList) : wt s = wt t := by unfold wt; rw [h]

/-- x wins over y. -/
def outr (x y : Rec) : Bool := if x.pri = y.pri then (if wt x.act = wt y.act then Op.bytesLess x.act.toList y.act.toList else decide (wt y.act < wt x.act)) else decide (x.pri < y.pri)
/-- x and y carry the same action at the same priority. -/
def sameB (x y : Rec) : Bool := (x.act.toList == y.act.toList) && (x.pri == y.pri)
theorem same_iff (x y : Rec) : sameB x y = true ↔ x.act.toList = y.act.toList ∧ x.pri = y.pri := by simp [sameB]

theorem outr_of (x y : Rec) : outr x y = true ↔ (x.pri < y.pri ∨ (x.pri = y.pri ∧ (wt y.act < wt x.act ∨ (wt x.act = wt y.act ∧ Op.bytesLess x.act.toList y.act.toList = true)))) := by
  unfold outr
  by_cases h : x.pri = y.pri
  · rw [if_pos h]
    by_cases h2 : wt x.act = wt y.act
    · rw [if_pos h2]
      constructor
      · intro h3; exact .inr ⟨h, .inr ⟨h2, h3⟩⟩
      · rintro (h3 | ⟨_, h3 | ⟨_, h3⟩⟩)
        · omega
        · omega
        · exact h3
    · rw [if_neg h2, decide_eq_true_eq]
      constructor
      · intro h3; exact .inr ⟨h, .inl h3⟩
      · rintro (h3 | ⟨_, h3 | ⟨h4, _⟩⟩)
        · omega
        · exact h3
        · exact absurd h4 h2
  · rw [if_neg h, decide_eq_true_eq]
    constructor
    · intro h3; exact .inl h3
    · rintro (h3 | ⟨h4, _⟩)
      · exact h3
      · exact absurd h4 h

theorem outr_same_right {x y z : Rec} (h : sameB x y = true) : outr z x = outr z y := by
  obtain ⟨h1, h2⟩ := (same_iff x y).1 h
  unfold outr
  rw [h2, wt_congr h1, h1]
theorem outr_same_left {x y z : Rec} (h : sameB x y = true) : outr x z = outr y z := by
  obtain ⟨h1, h2⟩ := (same_iff x y).1 h
  unfold outr
  rw [h2, wt_congr h1, h1]
theorem outr_irrefl (x : Rec) : outr x x = false := by simp [outr, less_irrefl]
theorem outr_of_same {x y : Rec} (h : sameB x y = true) : outr x y = false := by rw [outr_same_left h]; exact outr_irrefl y
theorem same_refl (x : Rec) : sameB x x = true := by simp [sameB]
theorem same_symm {x y : Rec} (h : sameB x y = true) : sameB y x = true := by
  rw [same_iff] at h ⊢
  exact ⟨h.1.symm, h.2.symm⟩
theorem same_trans {x y z : Rec} (h : sameB x y = true) (h' : sameB y z = true) : sameB x z = true := by
  rw [same_iff] at h h' ⊢
  exact ⟨h.1.trans h'.1, h.2.trans h'.2⟩
theorem outr_trans {x y z : Rec} (h : outr x y = true) (h' : outr y z = true) : outr x z = true := by
  rw [outr_of] at h h' ⊢
  rcases h with h | ⟨h1, h2⟩
  · rcases h' with h' | ⟨h1', _⟩
    · left; omega
    · left; omega
  · rcases h' with h' | ⟨h1', h2'⟩
    · left; omega
    · right
      refine ⟨by omega, ?_⟩
      rcases h2 with h2 | ⟨h2, h3⟩
      · rcases h2' with h2' | ⟨h2', _⟩
        · left; omega
        · left; omega
      · rcases h2' with h2' | ⟨h2', h3'⟩
        · left; omega
        · right; exact ⟨by omega, less_trans _ _ _ h3 h3'⟩
theorem outr_total (x y : Rec) (h : sameB x y = false) : outr x y = true ∨ outr y x = true := by
  rw [outr_of, outr_of]
  rcases Int.lt_trichotomy x.pri y.pri with hp | hp | hp
  · exact .inl (.inl hp)
  · rcases Int.lt_trichotomy (wt x.act) (wt y.act) with hw | hw | hw
    · exact .inr (.inr ⟨hp.symm, .inl hw⟩)
    · rcases less_total x.act.toList y.act.toList with hl | hl | hl
      · exact .inl (.inr ⟨hp, .inr ⟨hw, hl⟩⟩)
      · rw [(same_iff x y).2 ⟨hl, hp⟩] at h
        cases h
      · exact .inr (.inr ⟨hp.symm, .inr ⟨hw.symm, hl⟩⟩)
    · exact .inl (.inr ⟨hp, .inl hw⟩)
  · exact .inr (.inl hp)
/-- Where neither wins over the other, they are the same. -/
theorem same_of_not {x y : Rec} (h : outr x y = false) (h' : outr y x = false) : sameB x y = true := by
  cases hs : sameB x y
  · rcases outr_total x y hs with h2 | h2
    · rw [h] at h2; cases h2
    · rw [h'] at h2; cases h2
  · rfl

/-! ### Combine -/
def dflt : Rec := ⟨ByteArray.empty, 0, ByteArray.empty⟩
/-- Element i. -/
def el (rs : List Rec) (i : Nat) : Rec := rs.getD i dflt
theorem el_lt (rs : List Rec) (i : Nat) (h : i < rs.length) : el rs i = rs[i] := by simp [el, List.getD, List.getElem?_eq_getElem h]

/-- One round: element number k, over the winners so far. -/
def stp (rs : List Rec) (ws : List Nat) (k : Nat) : List Nat :=
  match ws with
  | [] => [k]
  | w0 :: t => if outr (el rs k) (el rs w0) = true then [k] else if sameB (el rs k) (el rs w0) = true then w0 :: t ++ [k] else w0 :: t
/-- The winners among the first k. -/
def comb (rs : List Rec) : Nat → List Nat
  | 0 => []
  | k + 1 => stp rs (comb rs k) k

/-- The winners: the places of all that are the same as one over which none wins. -/
theorem comb_spec (rs : List Rec) : ∀ k, 0 < k → ∃ w0 t, comb rs k = w0 :: t ∧ w0 < k ∧ (∀ j, j < k → outr (el rs j) (el rs w0) = false) ∧ comb rs k = (List.range k).filter (fun i => sameB (el rs i) (el rs w0))
  | 0, h => absurd h (by omega)
  | 1, _ => ⟨0, [], rfl, by omega, fun j hj => by rw [show j = 0 from by omega]; exact outr_irrefl _, by simp [comb, stp, List.range_succ, same_refl]⟩
  | k + 2, _ => by
    obtain ⟨w0, t, e, hlt, hb, hf⟩ := comb_spec rs (k + 1) (by omega)
    have ec : comb rs (k + 2) = stp rs (comb rs (k + 1)) (k + 1) := rfl
    rw [ec]
    cases ho : outr (el rs (k + 1)) (el rs w0)
    · cases hs : sameB (el rs (k + 1)) (el rs w0)
      · have e2 : stp rs (comb rs (k + 1)) (k + 1) = w0 :: t := by rw [e]; simp [stp, ho, hs]
        refine ⟨w0, t, e2, by omega, ?_, ?_⟩
        · intro j hj
          rcases Nat.lt_or_ge j (k + 1) with h | h
          · exact hb j h
          · rw [show j = k + 1 from by omega]; exact ho
        · rw [e2, List.range_succ, List.filter_append, ← hf, e]
          simp [hs]
      · have e2 : stp rs (comb rs (k + 1)) (k + 1) = w0 :: (t ++ [k + 1]) := by rw [e]; simp [stp, ho, hs]
        refine ⟨w0, t ++ [k + 1], e2, by omega, ?_, ?_⟩
        · intro j hj
          rcases Nat.lt_or_ge j (k + 1) with h | h
          · exact hb j h
          · rw [show j = k + 1 from by omega]; exact ho
        · rw [e2, List.range_succ, List.filter_append, ← hf, e]
          simp [hs]
    · have e2 : stp rs (comb rs (k + 1)) (k + 1) = [k + 1] := by rw [e]; simp [stp, ho]
      refine ⟨k + 1, [], e2, by omega, ?_, ?_⟩
      · intro j hj
        rcases Nat.lt_or_ge j (k + 1) with h | h
        · cases hj' : outr (el rs j) (el rs (k + 1))
          · rfl
          · have := outr_trans hj' ho
            rw [hb j h] at this
            cases this
        · rw [show j = k + 1 from by omega]; exact outr_irrefl _
      · rw [e2, List.range_succ, List.filter_append]
        have hnil : (List.range (k + 1)).filter (fun i => sameB (el rs i) (el rs (k + 1))) = [] := by
          rw [List.filter_eq_nil_iff]
          intro i hi hsm
          have hi' : i < k + 1 := by simpa using hi
          have := hb i hi'
          rw [outr_same_left hsm, ho] at this
          cases this
        rw [hnil]
        simp [same_refl]
end Go.Proofs.Qxb6632316a
