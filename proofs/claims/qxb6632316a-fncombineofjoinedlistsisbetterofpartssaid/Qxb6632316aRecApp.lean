/-
  APPENDING RECORDS to a row that the call owns; seat b6632316a.
-/
import Derived.Test.Qxb6632316aExpect
import Derived.OwnWalk
namespace Go.Proofs.Qxb6632316a
open Go.RowKit
set_option linter.unusedVariables false

/-- The records as values, three cells each. -/
def recV (rs : List Rec) : List Value := rs.flatMap fun r => [.string r.act, .int .i64 r.pri, .string r.id]

theorem recV_append (xs ys : List Rec) : recV (xs ++ ys) = recV xs ++ recV ys := by simp [recV, List.flatMap_append]

theorem recV_length (rs : List Rec) : (recV rs).length = rs.length * 3 := by
  induction rs with
  | nil => rfl
  | cons r t ih =>
    have e : recV (r :: t) = .string r.act :: .int .i64 r.pri :: .string r.id :: recV t := by simp [recV]
    rw [e]
    simp only [List.length_cons, ih]
    omega

theorem recV_at (rs : List Rec) : ∀ i (h : i < rs.length), (recV rs)[i * 3]? = some (.string rs[i].act) ∧ (recV rs)[i * 3 + 1]? = some (.int .i64 rs[i].pri) ∧ (recV rs)[i * 3 + 2]? = some (.string rs[i].id) := by
  induction rs with
  | nil => intro i h; simp at h
  | cons r t ih =>
    intro i h
    have e : recV (r :: t) = .string r.act :: .int .i64 r.pri :: .string r.id :: recV t := by simp [recV]
    rw [e]
    cases i with
    | zero => exact ⟨rfl, rfl, rfl⟩
    | succ i =>
      have h' := ih i (by simpa using h)
      rw [show (i + 1) * 3 = i * 3 + 1 + 1 + 1 from by omega]
      simp only [List.getElem?_cons_succ, List.getElem_cons_succ]
      exact h'

theorem recV_one (rs : List Rec) : ∀ u ∈ recV rs, u.oneCell' = true := by
  intro u hu
  simp only [recV, List.mem_flatMap] at hu
  obtain ⟨r, _, hu⟩ := hu
  simp at hu
  rcases hu with rfl | rfl | rfl <;> rfl

theorem recs_cells {w : World} {a : Option Addr} {n : Nat} {rs : List Rec} (h : Recs w a n rs) : ∀ ad, a = some ad → ∀ j u, (recV rs)[j]? = some u → w.cell? (ad.add j) = some u := by
  intro ad had j u hu
  have hj : j < rs.length * 3 := by
    have := (List.getElem?_eq_some_iff.1 hu).1
    rwa [recV_length] at this
  have hl := h.hlen
  obtain ⟨b, off, e, _, hc⟩ := h.hat (by omega)
  rw [e] at had
  obtain rfl := Option.some.inj had
  rw [Addr.add_lit]
  obtain ⟨c0, c1, c2⟩ := hc (j / 3) (by omega)
  obtain ⟨v0, v1, v2⟩ := recV_at rs (j / 3) (by omega)
  have h3 : j = j / 3 * 3 ∨ j = j / 3 * 3 + 1 ∨ j = j / 3 * 3 + 2 := by omega
  rcases h3 with h3 | h3 | h3
  · rw [← h3] at c0 v0
    rw [c0, ← v0, hu]
  · rw [← h3] at v1
    rw [show off + j = off + j / 3 * 3 + 1 from by omega, c1, ← v1, hu]
  · rw [← h3] at v2
    rw [show off + j = off + j / 3 * 3 + 2 from by omega, c2, ← v2, hu]

/-- A row that is owned, its cells a list of records. -/
theorem recs_own {w : World} {base g n cap : Nat} {rs : List Rec} (h : w.ownsRow base 39 3 (.slice (some ⟨g, 0, none⟩) n cap) n (recV rs)) : Recs w (some ⟨g, 0, none⟩) n rs := by
  obtain ⟨h1, h2⟩ := h
  rw [recV_length] at h1
  have hl : rs.length = n := by omega
  rcases h2 with ⟨h3, _⟩ | ⟨g', cap', cur, hv, hb', hg, hn, hm, hc, ht⟩
  · cases h3
  · simp only [Value.slice.injEq, Option.some.injEq, Addr.mk.injEq] at hv
    obtain ⟨⟨rfl, _⟩, _, rfl⟩ := hv
    refine ⟨hl, by unfold maxLen at hm; omega, fun h0 => ⟨g, 0, rfl, ?_, fun i hi => ?_⟩⟩
    · rcases Nat.lt_or_ge g w.heap.size with h | h
      · exact h
      · rw [Array.getElem?_eq_none h] at hg; cases hg
    · have hcell : ∀ j u, (recV rs)[j]? = some u → w.cell? ⟨g, 0 + j, none⟩ = some u := by
        intro j u hu
        have hj : j < rs.length * 3 := by
          have := (List.getElem?_eq_some_iff.1 hu).1
          rwa [recV_length] at this
        rw [← ht, List.getElem?_take_of_lt (by omega)] at hu
        have hu' : cur[j]? = some u := by simpa using hu
        simp [World.cell?, hg, hu']
      obtain ⟨v0, v1, v2⟩ := recV_at rs i hi
      exact ⟨hcell _ _ v0, by rw [Nat.add_assoc]; exact hcell _ _ v1, by rw [Nat.add_assoc]; exact hcell _ _ v2⟩

/-- 'make([]policy.Execute, 0, c)' leaves an owned row. -/
theorem own_start39 (w : World) (c : Nat) (hc : c ≤ 4194304) : (w.alloc (.cells (madeCells #[.string ⟨#[]⟩, .int .i64 0, .string ⟨#[]⟩] (c * 3)) 39)).ownsRow w.heap.size 39 3 (.slice (some ⟨w.heap.size, 0, none⟩) 0 c) 0 (recV []) :=
  ⟨rfl, .inr ⟨w.heap.size, c, _, rfl, Nat.le_refl _, Go.Deep.blk_alloc_new _ _, Nat.zero_le _, by unfold maxLen; omega, by simp [size_madeCells], by simp [recV]⟩⟩

/-- 'append(row, toPolicy(..)...)': the walk's own law. -/
theorem app_rec {ops : Array Oper} {rest : List Oper} {o : Oper} {a : Act} {Q : Exit → Act → World → Prop} (W : World) (hgd : o.guard = none) (s x : Operand)
    (ho : o.op = .call { callee := .builtin .append, args := #[s, x], argTypes := #[26, 26] }) (base g k cap : Nat) (xs : List Rec) (hs : a.eval s = .slice (some ⟨g, 0, none⟩) k cap)
    (hown : W.ownsRow base 39 3 (.slice (some ⟨g, 0, none⟩) k cap) k (recV xs)) (ao : Option Addr) (m : Nat) (rs : List Rec) (hx : a.eval x = .slice ao m m) (hR : Recs W ao m rs) (b1 : k + m ≤ cap) (hbase : base ≤ W.heap.size)
    (h : ∀ w', w'.ownsRow base 39 3 (.slice (some ⟨g, 0, none⟩) (k + m) cap) (k + m) (recV (xs ++ rs)) → Below base W w' → wpList Try.prog ops Q rest (a.put o.dst (.slice (some ⟨g, 0, none⟩) (k + m) cap)) w') :
    wpList Try.prog ops Q (o :: rest) a W := by
  obtain ⟨i, hi, hz, hsz, hb⟩ := info_parts Try.info39
  refine wpList_append_fits_any (P := Try.prog) W hgd s x 26 ho base 39 i 3 Try.underlying26 hi hsz g k cap (recV xs) hs hown ao m m (recV rs) hx (by rw [recV_length, hR.hlen]) ?_ (recs_cells hR) (recV_one rs) b1 ?_
  · intro e
    rcases Nat.eq_zero_or_pos m with h0 | h0
    · exact ⟨h0, h0⟩
    · obtain ⟨b, off, e', _⟩ := hR.hat h0
      rw [e] at e'
      cases e'
  · intro w' h1 h2
    refine h w' (by rw [recV_append]; exact h1) ((Below.refl base W).grown h2 hbase ?_)
    intro q hq
    obtain ⟨_, h3⟩ := hown
    rcases h3 with ⟨h4, _⟩ | ⟨g', cap', cur, hv, hb', _⟩
    · cases h4
    · simp only [Value.slice.injEq, Option.some.injEq, Addr.mk.injEq] at hv
      have := Option.some.inj hq
      omega
end Go.Proofs.Qxb6632316a
