/-
  PLAIN FACTS for FnCombineMatchesStagedSelection, seat b6632316a: the winner found in three stages. No program in sight.
-/
import Derived.Test.Qxb6632316aPlain
namespace Go.Proofs.Qxb6632316a
open Go
set_option linter.unusedVariables false

/-- b is the least priority of the first k. -/
structure IsMin (rs : List Rec) (k : Nat) (b : Int) : Prop where
  ex : ∃ j, j < k ∧ (el rs j).pri = b
  all : ∀ j, j < k → b ≤ (el rs j).pri
theorem IsMin.start (rs : List Rec) : IsMin rs 1 (el rs 0).pri := ⟨⟨0, by omega, rfl⟩, fun j hj => by rw [show j = 0 from by omega]; omega⟩
theorem IsMin.new {rs : List Rec} {k : Nat} {b : Int} (h : IsMin rs k b) (hlt : (el rs k).pri < b) : IsMin rs (k + 1) (el rs k).pri := by
  refine ⟨⟨k, by omega, rfl⟩, fun j hj => ?_⟩
  rcases Nat.lt_or_ge j k with h' | h'
  · have := h.all j h'; omega
  · rw [show j = k from by omega]; omega
theorem IsMin.keep {rs : List Rec} {k : Nat} {b : Int} (h : IsMin rs k b) (hge : b ≤ (el rs k).pri) : IsMin rs (k + 1) b := by
  obtain ⟨j, hj, e⟩ := h.ex
  refine ⟨⟨j, by omega, e⟩, fun j hj => ?_⟩
  rcases Nat.lt_or_ge j k with h' | h'
  · exact h.all j h'
  · rw [show j = k from by omega]; exact hge

/-- c is the greatest weight among the first k of priority b; 0 where there is none. -/
structure IsMax (rs : List Rec) (b : Int) (k : Nat) (c : Int) : Prop where
  c0 : 0 ≤ c
  c3 : c ≤ 3
  ex : c = 0 ∨ ∃ j, j < k ∧ (el rs j).pri = b ∧ wt (el rs j).act = c
  all : ∀ j, j < k → (el rs j).pri = b → wt (el rs j).act ≤ c
theorem IsMax.start (rs : List Rec) (b : Int) : IsMax rs b 0 0 := ⟨by omega, by omega, .inl rfl, fun j hj => by omega⟩
theorem IsMax.new {rs : List Rec} {b : Int} {k : Nat} {c : Int} (h : IsMax rs b k c) (hp : (el rs k).pri = b) (hlt : c < wt (el rs k).act) : IsMax rs b (k + 1) (wt (el rs k).act) := by
  have hb := wt_bd (el rs k).act
  refine ⟨by omega, by omega, .inr ⟨k, by omega, hp, rfl⟩, fun j hj hpj => ?_⟩
  rcases Nat.lt_or_ge j k with h' | h'
  · have := h.all j h' hpj; omega
  · rw [show j = k from by omega]; omega
theorem IsMax.keep {rs : List Rec} {b : Int} {k : Nat} {c : Int} (h : IsMax rs b k c) (hk : (el rs k).pri = b → wt (el rs k).act ≤ c) : IsMax rs b (k + 1) c := by
  refine ⟨h.c0, h.c3, ?_, fun j hj hpj => ?_⟩
  · rcases h.ex with e | ⟨j, hj, e⟩
    · exact .inl e
    · exact .inr ⟨j, by omega, e⟩
  · rcases Nat.lt_or_ge j k with h' | h'
    · exact h.all j h' hpj
    · have e : j = k := by omega
      subst e
      exact hk hpj

/-- The least action among the first k of priority b and weight c. -/
structure IsAct (rs : List Rec) (b c : Int) (k : Nat) (fd : Bool) (s : ByteArray) : Prop where
  no : fd = false → ∀ j, j < k → ¬ ((el rs j).pri = b ∧ wt (el rs j).act = c)
  yes : fd = true → ∃ j, j < k ∧ (el rs j).pri = b ∧ wt (el rs j).act = c ∧ (el rs j).act.toList = s.toList
  all : fd = true → ∀ j, j < k → (el rs j).pri = b → wt (el rs j).act = c → Op.bytesLess (el rs j).act.toList s.toList = false
theorem IsAct.start (rs : List Rec) (b c : Int) (s : ByteArray) : IsAct rs b c 0 false s := ⟨fun _ j hj => by omega, fun h => (by cases h), fun h => (by cases h)⟩
theorem IsAct.keep {rs : List Rec} {b c : Int} {k : Nat} {fd : Bool} {s : ByteArray} (h : IsAct rs b c k fd s) (hk : ¬ ((el rs k).pri = b ∧ wt (el rs k).act = c)) : IsAct rs b c (k + 1) fd s := by
  refine ⟨fun hf j hj => ?_, fun hf => ?_, fun hf j hj hp hw => ?_⟩
  · rcases Nat.lt_or_ge j k with h' | h'
    · exact h.no hf j h'
    · rw [show j = k from by omega]; exact hk
  · obtain ⟨j, hj, e⟩ := h.yes hf
    exact ⟨j, by omega, e⟩
  · rcases Nat.lt_or_ge j k with h' | h'
    · exact h.all hf j h' hp hw
    · have e : j = k := by omega
      subst e
      exact absurd ⟨hp, hw⟩ hk
theorem IsAct.keep2 {rs : List Rec} {b c : Int} {k : Nat} {s : ByteArray} (h : IsAct rs b c k true s) (hk : Op.bytesLess (el rs k).act.toList s.toList = false) : IsAct rs b c (k + 1) true s := by
  refine ⟨fun hf => (by cases hf), fun hf => ?_, fun hf j hj hp hw => ?_⟩
  · obtain ⟨j, hj, e⟩ := h.yes hf
    exact ⟨j, by omega, e⟩
  · rcases Nat.lt_or_ge j k with h' | h'
    · exact h.all hf j h' hp hw
    · rw [show j = k from by omega]; exact hk
theorem IsAct.new {rs : List Rec} {b c : Int} {k : Nat} {fd : Bool} {s : ByteArray} (h : IsAct rs b c k fd s) (hp : (el rs k).pri = b) (hw : wt (el rs k).act = c) (hl : fd = true → Op.bytesLess (el rs k).act.toList s.toList = true) : IsAct rs b c (k + 1) true (el rs k).act := by
  refine ⟨fun hf => (by cases hf), fun hf => ⟨k, by omega, hp, hw, rfl⟩, fun hf j hj hpj hwj => ?_⟩
  rcases Nat.lt_or_ge j k with h' | h'
  · cases hfd : fd
    · exact absurd ⟨hpj, hwj⟩ (h.no hfd j h')
    · cases hx : Op.bytesLess (el rs j).act.toList (el rs k).act.toList
      · rfl
      · have h1 := less_trans _ _ _ hx (hl hfd)
        rw [h.all hfd j h' hpj hwj] at h1
        cases h1
  · rw [show j = k from by omega]; exact less_irrefl _

/-- The test of the last stage. -/
def tst (rs : List Rec) (b : Int) (s : ByteArray) (i : Nat) : Bool := ((el rs i).pri == b) && ((el rs i).act.toList == s.toList)

/-- THE LAW: the winners are those that the three stages pick. -/
theorem staged (rs : List Rec) (n : Nat) (hn : 0 < n) (b c : Int) (fd : Bool) (s : ByteArray) (h1 : IsMin rs n b) (h2 : IsMax rs b n c) (h3 : IsAct rs b c n fd s) : comb rs n = (List.range n).filter (tst rs b s) := by
  obtain ⟨j0, hj0, ej0⟩ := h1.ex
  have hc : ∃ j, j < n ∧ (el rs j).pri = b ∧ wt (el rs j).act = c := by
    rcases h2.ex with e | e
    · have := h2.all j0 hj0 ej0
      have := wt_bd (el rs j0).act
      omega
    · exact e
  have hfd : fd = true := by
    cases hfd : fd
    · obtain ⟨j, hj, e⟩ := hc
      exact absurd e (h3.no hfd j hj)
    · rfl
  obtain ⟨m, hm, em1, em2, em3⟩ := h3.yes hfd
  obtain ⟨w0, t, _, hw0, hbest, hf⟩ := comb_spec rs n hn
  have hno : ∀ j, j < n → outr (el rs j) (el rs m) = false := by
    intro j hj
    cases ho : outr (el rs j) (el rs m)
    · rfl
    · rw [outr_of] at ho
      have hj1 := h1.all j hj
      rcases ho with ho | ⟨ho1, ho2⟩
      · omega
      · have hj2 := h2.all j hj (by omega)
        rcases ho2 with ho2 | ⟨ho2, ho3⟩
        · omega
        · rw [em3, h3.all hfd j hj (by omega) (by omega)] at ho3
          cases ho3
  have hsm : sameB (el rs m) (el rs w0) = true := same_of_not (hbest m hm) (hno w0 hw0)
  rw [hf]
  apply List.filter_congr
  intro i hi
  have e1 : tst rs b s i = sameB (el rs i) (el rs m) := by
    unfold tst sameB
    rw [em1, em3, Bool.and_comm]
  rw [e1]
  cases h : sameB (el rs i) (el rs m)
  · cases h' : sameB (el rs i) (el rs w0)
    · rfl
    · have := same_trans h' (same_symm hsm)
      rw [h] at this
      cases this
  · exact same_trans h hsm

/-! ### A filter over the first numbers, one by one -/
def cnt (P : Nat → Bool) (k : Nat) : Nat := ((List.range k).filter P).length
theorem cnt_zero (P : Nat → Bool) : cnt P 0 = 0 := rfl
theorem cnt_yes (P : Nat → Bool) (k : Nat) (h : P k = true) : cnt P (k + 1) = cnt P k + 1 := by simp [cnt, List.range_succ, List.filter_append, h]
theorem cnt_no (P : Nat → Bool) (k : Nat) (h : P k = false) : cnt P (k + 1) = cnt P k := by simp [cnt, List.range_succ, List.filter_append, h]
theorem cnt_le (P : Nat → Bool) (k : Nat) : cnt P k ≤ k := by
  have := List.length_filter_le P (List.range k)
  simpa [cnt] using this
theorem filt_at (P : Nat → Bool) (k n : Nat) (h : k < n) (hP : P k = true) : ((List.range n).filter P)[cnt P k]? = some k := by
  obtain ⟨m, rfl⟩ : ∃ m, n = k + 1 + m := ⟨n - (k + 1), by omega⟩
  rw [List.range_add, List.filter_append, List.range_succ, List.filter_append]
  have e : [k].filter P = [k] := by simp [hP]
  rw [e, List.append_assoc, List.getElem?_append_right (by simp [cnt])]
  simp [cnt]
end Go.Proofs.Qxb6632316a
