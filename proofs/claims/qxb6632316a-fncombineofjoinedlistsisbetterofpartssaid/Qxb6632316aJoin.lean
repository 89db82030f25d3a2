/-
  PLAIN FACTS for FnCombineOfJoinedListsIsBetterOfParts, seat b6632316a: the winners of two lists, one behind the other. No walk in sight.
-/
import Derived.Test.Qxb6632316aLeaf
namespace Go.Proofs.Qxb6632316a
open Go
set_option linter.unusedVariables false

/-- The winners, from any one over which none wins. -/
theorem comb_from (rs : List Rec) (n m : Nat) (hm : m < n) (hb : ∀ j, j < n → outr (el rs j) (el rs m) = false) : comb rs n = (List.range n).filter (fun i => sameB (el rs i) (el rs m)) := by
  obtain ⟨w0, t, _, hw0, hbest, hf⟩ := comb_spec rs n (by omega)
  have hsm : sameB (el rs m) (el rs w0) = true := same_of_not (hbest m hm) (hb w0 hw0)
  rw [hf]
  apply List.filter_congr
  intro i hi
  cases h : sameB (el rs i) (el rs m)
  · cases h' : sameB (el rs i) (el rs w0)
    · rfl
    · have := same_trans h' (same_symm hsm)
      rw [h] at this
      cases this
  · exact same_trans h hsm

theorem el_left (xs ys : List Rec) (i : Nat) (h : i < xs.length) : el (xs ++ ys) i = el xs i := by simp [el, List.getD, List.getElem?_append_left h]
theorem el_right (xs ys : List Rec) (i : Nat) : el (xs ++ ys) (xs.length + i) = el ys i := by simp [el, List.getD, List.getElem?_append_right]

/-- What joinedExpect answers. -/
def jexp (xs : List Rec) (wx : List Nat) (ys : List Rec) (wy : List Nat) : List Nat :=
  match wx, wy with
  | [], wy => wy.map (· + xs.length)
  | wx, [] => wx
  | x0 :: tx, y0 :: ty => (if rnk (el xs x0) (el ys y0) ≤ 0 then x0 :: tx else []) ++ (if 0 ≤ rnk (el xs x0) (el ys y0) then (y0 :: ty).map (· + xs.length) else [])

theorem range_two (n m : Nat) (P : Nat → Bool) : (List.range (n + m)).filter P = (List.range n).filter P ++ ((List.range m).filter (fun i => P (n + i))).map (· + n) := by
  rw [List.range_add, List.filter_append, List.filter_map]
  congr 1
  have e : (fun x => x + n) = (fun x => n + x) := by funext x; omega
  rw [e]
  rfl

theorem comb_empty (rs : List Rec) (n : Nat) : comb rs n = [] ↔ n = 0 := by
  constructor
  · intro h
    rcases Nat.eq_zero_or_pos n with h0 | h0
    · exact h0
    · obtain ⟨w0, t, e, _⟩ := comb_spec rs n h0
      rw [e] at h
      cases h
  · rintro rfl; rfl

theorem comb_congr (rs rs' : List Rec) (n : Nat) (h : ∀ i, i < n → el rs i = el rs' i) : comb rs n = comb rs' n := by
  rcases Nat.eq_zero_or_pos n with rfl | h0
  · rfl
  · obtain ⟨w0, t, _, hw0, hb, hf⟩ := comb_spec rs n h0
    rw [hf, comb_from rs' n w0 hw0 (fun j hj => by rw [← h j hj, ← h w0 hw0]; exact hb j hj)]
    apply List.filter_congr
    intro i hi
    rw [h i (by simpa using hi), h w0 hw0]

/-- THE LAW. -/
theorem comb_join (xs ys : List Rec) : comb (xs ++ ys) (xs.length + ys.length) = jexp xs (comb xs xs.length) ys (comb ys ys.length) := by
  rcases Nat.eq_zero_or_pos xs.length with hx | hx
  · have ex : xs = [] := List.eq_nil_of_length_eq_zero hx
    subst ex
    simp [jexp, comb]
  · obtain ⟨a0, ta, ea, ha0, hba, hfa⟩ := comb_spec xs xs.length hx
    rcases Nat.eq_zero_or_pos ys.length with hy | hy
    · have ey : ys = [] := List.eq_nil_of_length_eq_zero hy
      subst ey
      have e0 : comb ([] : List Rec) ([] : List Rec).length = [] := rfl
      rw [e0, ea]
      simp [jexp, ea]
    · obtain ⟨b0, tb, eb, hb0, hbb, hfb⟩ := comb_spec ys ys.length hy
      have hxl : ∀ j, j < xs.length + ys.length → (j < xs.length ∧ el (xs ++ ys) j = el xs j) ∨ (∃ i, i < ys.length ∧ j = xs.length + i ∧ el (xs ++ ys) j = el ys i) := by
        intro j hj
        rcases Nat.lt_or_ge j xs.length with h | h
        · exact .inl ⟨h, el_left xs ys j h⟩
        · refine .inr ⟨j - xs.length, by omega, by omega, ?_⟩
          rw [← el_right xs ys (j - xs.length)]
          congr 1
          omega
      have e2 : jexp xs (comb xs xs.length) ys (comb ys ys.length) = (if rnk (el xs a0) (el ys b0) ≤ 0 then comb xs xs.length else []) ++ (if 0 ≤ rnk (el xs a0) (el ys b0) then (comb ys ys.length).map (· + xs.length) else []) := by
        rw [ea, eb]; rfl
      rw [e2]
      cases h1 : outr (el xs a0) (el ys b0)
      · cases h2 : outr (el ys b0) (el xs a0)
        · -- the same
          have hsm := same_of_not h1 h2
          rw [rnk_eq hsm]
          have hno : ∀ j, j < xs.length + ys.length → outr (el (xs ++ ys) j) (el (xs ++ ys) a0) = false := by
            intro j hj
            rw [el_left xs ys a0 ha0]
            rcases hxl j hj with ⟨h, e⟩ | ⟨i, hi, _, e⟩
            · rw [e]; exact hba j h
            · rw [e, outr_same_right hsm]; exact hbb i hi
          rw [comb_from (xs ++ ys) _ a0 (by omega) hno, range_two, if_pos (by decide), if_pos (by decide), hfa, hfb, el_left xs ys a0 ha0]
          congr 1
          · apply List.filter_congr
            intro i hi
            rw [el_left xs ys i (by simpa using hi)]
          · congr 1
            apply List.filter_congr
            intro i hi
            rw [el_right]
            cases h : sameB (el ys i) (el xs a0)
            · cases h' : sameB (el ys i) (el ys b0)
              · rfl
              · have := same_trans h' (same_symm hsm)
                rw [h] at this
                cases this
            · exact (same_trans h hsm).symm
        · -- y wins
          rw [rnk_gt h2]
          have hno : ∀ j, j < xs.length + ys.length → outr (el (xs ++ ys) j) (el (xs ++ ys) (xs.length + b0)) = false := by
            intro j hj
            rw [el_right]
            rcases hxl j hj with ⟨h, e⟩ | ⟨i, hi, _, e⟩
            · rw [e]
              cases h' : outr (el xs j) (el ys b0)
              · rfl
              · have := outr_trans h' h2
                rw [hba j h] at this
                cases this
            · rw [e]; exact hbb i hi
          rw [comb_from (xs ++ ys) _ (xs.length + b0) (by omega) hno, range_two, if_neg (by decide), if_pos (by decide), hfb, el_right]
          have hnil : (List.range xs.length).filter (fun i => sameB (el (xs ++ ys) i) (el ys b0)) = [] := by
            rw [List.filter_eq_nil_iff]
            intro i hi hsm
            have hi' : i < xs.length := by simpa using hi
            rw [el_left xs ys i hi'] at hsm
            have := hba i hi'
            rw [outr_same_left hsm, h2] at this
            cases this
          rw [hnil]
          congr 2
          apply List.filter_congr
          intro i hi
          rw [el_right]
      · -- x wins
        rw [rnk_lt h1]
        have hno : ∀ j, j < xs.length + ys.length → outr (el (xs ++ ys) j) (el (xs ++ ys) a0) = false := by
          intro j hj
          rw [el_left xs ys a0 ha0]
          rcases hxl j hj with ⟨h, e⟩ | ⟨i, hi, _, e⟩
          · rw [e]; exact hba j h
          · rw [e]
            cases h' : outr (el ys i) (el xs a0)
            · rfl
            · have := outr_trans h' h1
              rw [hbb i hi] at this
              cases this
        rw [comb_from (xs ++ ys) _ a0 (by omega) hno, range_two, if_pos (by decide), if_neg (by decide), hfa, el_left xs ys a0 ha0]
        have hnil : (List.range ys.length).filter (fun i => sameB (el (xs ++ ys) (xs.length + i)) (el xs a0)) = [] := by
          rw [List.filter_eq_nil_iff]
          intro i hi hsm
          have hi' : i < ys.length := by simpa using hi
          rw [el_right] at hsm
          have := hbb i hi'
          rw [outr_same_left hsm, h1] at this
          cases this
        rw [hnil]
        simp only [List.map_nil, List.append_nil]
        apply List.filter_congr
        intro i hi
        rw [el_left xs ys i (by simpa using hi)]

/-- The winners stand in increasing order and in range. -/
theorem comb_sorted (rs : List Rec) (n : Nat) : (comb rs n).Pairwise (· < ·) ∧ ∀ i ∈ comb rs n, i < n := by
  rcases Nat.eq_zero_or_pos n with rfl | h0
  · exact ⟨List.Pairwise.nil, fun i hi => by cases hi⟩
  · obtain ⟨w0, t, _, _, _, hf⟩ := comb_spec rs n h0
    rw [hf]
    refine ⟨List.Pairwise.filter _ List.pairwise_lt_range, fun i hi => ?_⟩
    have := (List.mem_filter.1 hi).1
    simpa using this
end Go.Proofs.Qxb6632316a
