/-
  PLAIN FACTS for seat b6632266a: the first place of a list at which a test says yes. No program in sight.
-/
namespace Go.Proofs.Qxb6632266a
set_option linter.unusedVariables false

/-- The place of the first element equal to typ, byte for byte; the length where there is none. -/
def fst (ts : List ByteArray) (typ : ByteArray) : Nat := ts.findIdx (fun s => s.toList == typ.toList)

theorem fst_le (ts : List ByteArray) (typ : ByteArray) : fst ts typ ≤ ts.length := List.findIdx_le_length
theorem fst_hit (ts : List ByteArray) (typ : ByteArray) (h : fst ts typ < ts.length) : (ts[fst ts typ].toList == typ.toList) = true := List.findIdx_getElem (p := fun s : ByteArray => s.toList == typ.toList) (w := h)
theorem fst_before (ts : List ByteArray) (typ : ByteArray) (i : Nat) (h : i < fst ts typ) (hi : i < ts.length) : (ts[i].toList == typ.toList) = false := by
  have := List.not_of_lt_findIdx (p := fun s : ByteArray => s.toList == typ.toList) (xs := ts) h
  simpa using this

theorem fst_unique (ts : List ByteArray) (typ : ByteArray) (i : Nat) (hi : i ≤ ts.length) (hb : ∀ j (hj : j < ts.length), j < i → (ts[j].toList == typ.toList) = false) (hh : ∀ h : i < ts.length, (ts[i].toList == typ.toList) = true) : fst ts typ = i := by
  have hle := fst_le ts typ
  rcases Nat.lt_trichotomy (fst ts typ) i with h | h | h
  · have h1 := fst_hit ts typ (by omega)
    have h2 := hb (fst ts typ) (by omega) h
    rw [h1] at h2
    cases h2
  · exact h
  · have h1 := fst_before ts typ i h (by omega)
    have h2 := hh (by omega)
    rw [h1] at h2
    cases h2

theorem fst_at (ts : List ByteArray) (typ : ByteArray) (k : Nat) (hk : k ≤ fst ts typ) (hlt : k < ts.length) (h : (ts[k].toList == typ.toList) = true) : fst ts typ = k := by
  rcases Nat.lt_or_ge k (fst ts typ) with h' | h'
  · have := fst_before ts typ k h' hlt
    rw [h] at this
    cases this
  · omega
theorem fst_past (ts : List ByteArray) (typ : ByteArray) (k : Nat) (hk : k ≤ fst ts typ) (hlt : k < ts.length) (h : (ts[k].toList == typ.toList) = false) : k + 1 ≤ fst ts typ := by
  rcases Nat.lt_or_ge k (fst ts typ) with h' | h'
  · exact h'
  · have e : fst ts typ = k := by omega
    have := fst_hit ts typ (by omega)
    simp only [e] at this
    rw [h] at this
    cases this

/-! ### A new element put in at place p -/
def ins (ss : List ByteArray) (p : Nat) (u : ByteArray) : List ByteArray := ss.take p ++ u :: ss.drop p
theorem ins_length (ss : List ByteArray) (p : Nat) (u : ByteArray) (hp : p ≤ ss.length) : (ins ss p u).length = ss.length + 1 := by simp [ins]; omega
theorem ins_lt (ss : List ByteArray) (p : Nat) (u : ByteArray) (hp : p ≤ ss.length) (j : Nat) (hj : j < p) (h : j < (ins ss p u).length) : (ins ss p u)[j] = ss[j] := by
  simp only [ins]
  rw [List.getElem_append_left (by simp; omega)]
  simp
theorem ins_at (ss : List ByteArray) (p : Nat) (u : ByteArray) (hp : p ≤ ss.length) (h : p < (ins ss p u).length) : (ins ss p u)[p] = u := by
  simp only [ins]
  rw [List.getElem_append_right (by simp; omega)]
  simp [Nat.min_eq_left hp]
theorem ins_gt (ss : List ByteArray) (p : Nat) (u : ByteArray) (hp : p ≤ ss.length) (j : Nat) (hj : p ≤ j) (hjl : j < ss.length) (h : j + 1 < (ins ss p u).length) : (ins ss p u)[j + 1] = ss[j] := by
  simp only [ins]
  rw [List.getElem_append_right (by simp; omega)]
  simp only [List.length_take, Nat.min_eq_left hp]
  have e : j + 1 - p = (j - p) + 1 := by omega
  simp only [e, List.getElem_cons_succ, List.getElem_drop]
  congr 1
  omega

/-- The first place in the longer list: the new one where it is met first. -/
theorem fst_ins_new (ss : List ByteArray) (p : Nat) (u typ : ByteArray) (hp : p ≤ ss.length) (hu : (u.toList == typ.toList) = true) (h : p ≤ fst ss typ) : fst (ins ss p u) typ = p := by
  have hl := ins_length ss p u hp
  refine fst_unique _ _ _ (by omega) (fun j hj hjp => ?_) (fun h' => ?_)
  · rw [ins_lt ss p u hp j hjp]
    exact fst_before ss typ j (by omega) (by omega)
  · rw [ins_at ss p u hp]
    exact hu
theorem fst_ins_lt (ss : List ByteArray) (p : Nat) (u typ : ByteArray) (hp : p ≤ ss.length) (h : fst ss typ < p) : fst (ins ss p u) typ = fst ss typ := by
  have hl := ins_length ss p u hp
  refine fst_unique _ _ _ (by omega) (fun j hj hjp => ?_) (fun h' => ?_)
  · rw [ins_lt ss p u hp j (by omega)]
    exact fst_before ss typ j hjp (by omega)
  · rw [ins_lt ss p u hp _ h]
    exact fst_hit ss typ (by omega)
theorem fst_ins_ge (ss : List ByteArray) (p : Nat) (u typ : ByteArray) (hp : p ≤ ss.length) (hu : (u.toList == typ.toList) = false) (h : p ≤ fst ss typ) : fst (ins ss p u) typ = fst ss typ + 1 := by
  have hl := ins_length ss p u hp
  have hle := fst_le ss typ
  refine fst_unique _ _ _ (by omega) (fun j hj hjp => ?_) (fun h' => ?_)
  · rcases Nat.lt_trichotomy j p with h1 | h1 | h1
    · rw [ins_lt ss p u hp j h1]
      exact fst_before ss typ j (by omega) (by omega)
    · subst h1
      rw [ins_at ss j u hp]
      exact hu
    · obtain ⟨i, rfl⟩ : ∃ i, j = i + 1 := ⟨j - 1, by omega⟩
      rw [ins_gt ss p u hp i (by omega) (by omega)]
      exact fst_before ss typ i (by omega) (by omega)
  · rw [ins_gt ss p u hp _ h (by omega)]
    exact fst_hit ss typ (by omega)

/-! ### Two lists, one behind the other -/
theorem fst_app_left (a b : List ByteArray) (typ : ByteArray) (h : fst a typ < a.length) : fst (a ++ b) typ = fst a typ := by
  refine fst_unique _ _ _ (by simp; omega) (fun j hj hjp => ?_) (fun h' => ?_)
  · rw [List.getElem_append_left (by omega)]
    exact fst_before a typ j hjp (by omega)
  · rw [List.getElem_append_left h]
    exact fst_hit a typ h
theorem fst_app_right (a b : List ByteArray) (typ : ByteArray) (h : ¬ fst a typ < a.length) : fst (a ++ b) typ = a.length + fst b typ := by
  have hle := fst_le a typ
  have hle2 := fst_le b typ
  refine fst_unique _ _ _ (by simp; omega) (fun j hj hjp => ?_) (fun h' => ?_)
  · by_cases hja : j < a.length
    · rw [List.getElem_append_left hja]
      exact fst_before a typ j (by omega) hja
    · rw [List.getElem_append_right (by omega)]
      exact fst_before b typ _ (by omega) (by simp at hj; omega)
  · rw [List.getElem_append_right (by omega)]
    simp only [Nat.add_sub_cancel_left]
    exact fst_hit b typ (by simp at h'; omega)
end Go.Proofs.Qxb6632266a
