/-
  THE PROOF OF 'Rows.FnCombineOfJoinedListsIsBetterOfPartsSaid': the frame after the kit's shell for slices; the walk: Qxb6632316aJoined.lean.
-/
import Derived.Test.Qxb6632316aRows
import Derived.WalkKit
import Derived.ProofKit
import Derived.OpenShut
import Derived.ShutString
import Derived.ChangeOld
import Derived.Below
import Derived.Deep.Strs
import Derived.Test.Qxb6632316aJoined
namespace Go.Proofs.Qxb6632316a.fnCombineOfJoinedListsIsBetterOfParts
open Go.ChangeShapes Go.WideShapes Go.ChangeAt Go.RowKit
set_option linter.unusedVariables false

theorem own : ownKnob Try.prog.godebug = none := by kernel_rfl
theorem laidOut : laidOutB Try.prog = true := by kernel_rfl

/-- From the reading of a slice of records to what the walk is told of it. -/
theorem recs_of {H : Type} {enc : TypeId × Value → H} {W : World} {a : Option Addr} {len cap : Nat} {d : DataW H} {p : List MemPlace} (h : DataW.Trod enc Try.prog W 0 (fun _ => true) true 22 (.slice a len cap) d p) : ∃ rs, Recs W a len rs := by
  obtain ⟨fuel, hf⟩ := h
  rcases Go.Deep.open_slice Try.underlying22 hf with ⟨hcs, _⟩ | ⟨x, l, c, m, n, D, Pl, hcs, _, hl, hm, hmm, _, hx⟩
  · simp [Value.cells] at hcs
    obtain ⟨rfl, rfl, rfl⟩ := hcs
    exact ⟨[], rfl, by omega, fun h => by omega⟩
  · simp [Value.cells] at hcs
    obtain ⟨rfl, rfl, rfl⟩ := hcs
    simp only [if_true] at hmm
    unfold maxLen at hm
    have c31 : Try.prog.cellsOf 31 = 3 := by kernel_rfl
    have each : ∀ i, i < len → ∃ q : ByteArray × Int × ByteArray, W.cell? (x.add (i * 3)) = some (.string q.1) ∧ W.cell? (x.add (i * 3 + 1)) = some (.int .i64 q.2.1) ∧ W.cell? (x.add (i * 3 + 2)) = some (.string q.2.2) := by
      intro i hi
      obtain ⟨cs', h1, h2⟩ := hx i (by omega)
      rw [c31] at h1
      obtain ⟨_, hlen, hcell⟩ := World.cells?_some h1
      obtain ⟨y0, y1, y2, k, _, _, g0, g1, g2⟩ := Go.Deep.trod_struct3 Try.underlying31 h2
      match cs', hlen with
      | [u0, u1, u2], _ =>
        have e9 : Try.prog.cellsOf 9 = 1 := by kernel_rfl
        have e3 : Try.prog.cellsOf 3 = 1 := by kernel_rfl
        simp [e9, e3] at g0 g1 g2
        obtain ⟨s0, t0, _, _⟩ := DataW.trod_string Try.underlying9 g0
        obtain ⟨s1, t1, _, _⟩ := DataW.trod_int Try.underlying3 g1
        obtain ⟨s2, t2, _, _⟩ := DataW.trod_string Try.underlying9 g2
        simp at t0 t1 t2
        subst t0 t1 t2
        have b0 := hcell 0 (by omega)
        have b1 := hcell 1 (by omega)
        have b2 := hcell 2 (by omega)
        rw [Go.Deep.add_add] at b0 b1 b2
        exact ⟨(s0, s1, s2), by simpa using b0, by simpa using b1, by simpa using b2⟩
    obtain ⟨f, hf2⟩ := Go.Deep.choose_lt each
    refine ⟨(List.range len).map (fun i => ⟨(f i).1, (f i).2.1, (f i).2.2⟩), by simp, by omega, fun h0 => ?_⟩
    obtain ⟨b, off, spot⟩ := x
    have hspot : spot = none := by
      have := (hf2 0 h0).1
      simpa [Addr.add] using World.cell?_spot this
    subst hspot
    refine ⟨b, off, rfl, ?_, fun i hi => ?_⟩
    · rcases Nat.lt_or_ge b W.heap.size with h' | h'
      · exact h'
      · have := (hf2 0 h0).1
        rw [add_plain] at this
        simp [World.cell?, Array.getElem?_eq_none h'] at this
    · have hi' : i < len := by simpa using hi
      obtain ⟨h1, h2, h3⟩ := hf2 i hi'
      rw [add_plain] at h1 h2 h3
      simp only [List.getElem_map, List.getElem_range]
      exact ⟨h1, h2, h3⟩

/-! ### THE ROW's STEP -/
set_option maxRecDepth 100000 in
theorem lifted (os : Os) (started : os.Started) (H : Type) (enc : TypeId × Value → H) :
    ReturnsInHanded {} Try.checked os 4 .any (Rows.fnCombineOfJoinedListsIsBetterOfPartsSpec.pre6 enc Try.prog Try.f4 Rows.fnCombineOfJoinedListsIsBetterOfPartsRow.domain false) (Rows.fnCombineOfJoinedListsIsBetterOfPartsSpec.post enc Try.prog Try.f4 false true false false) := by
  refine returnsInHanded_of_change (C := Try.checked) own started (by kernel_rfl) Try.func4
    (ChangeSpec.witness6 (enc := enc) (C := Try.checked) false ⟨#[], #[.slice none 0 0, .slice none 0 0], []⟩ 8 (by kernel_rfl) (by kernel_rfl) (by kernel_rfl) (by kernel_rfl)) ?_
  intro W base args ds gs before hval0 hW hcnd _
  have hval : ∀ (j : Nat) t v, Try.f4.params[j]? = some t → args[j]? = some v → Value.okWide Try.prog W .any base t v := hval0
  have hW' := hW
  obtain ⟨p, q, hA0, hV, rfl, hfz, hnd⟩ := hW
  have hA : DataW.TrodAll enc Try.prog W 0 (fun _ => true) true Try.f4.params.toList args.toList ds p := hA0
  rw [Try.params4] at hA hval
  obtain ⟨v0, vs0, d0, ds0, p0, q0, hargs, rfl, rfl, h0, r0⟩ := trodAll_cons hA
  obtain ⟨v1, vs1, d1, ds1, p1, q1, rfl, rfl, rfl, h1, r1⟩ := trodAll_cons r0
  obtain ⟨rfl, rfl, rfl⟩ := trodAll_nil r1
  obtain rfl : args = #[v0, v1] := by cases args; simp_all
  obtain ⟨rfl, rfl⟩ := trodVars_none hV
  obtain ⟨a0, len0, cap0, rfl⟩ := okWide_slice Try.underlying22 (hval 0 22 v0 rfl rfl)
  have k0 := h0
  have lt0 : ∀ x ∈ p0, x.block < W.heap.size := by obtain ⟨m, hm⟩ := k0; exact DataW.trod_lt m _ _ _ hm
  obtain ⟨z0, w0⟩ : ∃ rs, Recs W a0 len0 rs := recs_of h0
  obtain ⟨a1, len1, cap1, rfl⟩ := okWide_slice Try.underlying22 (hval 1 22 v1 rfl rfl)
  have k1 := h1
  have lt1 : ∀ x ∈ p1, x.block < W.heap.size := by obtain ⟨m, hm⟩ := k1; exact DataW.trod_lt m _ _ _ hm
  obtain ⟨z1, w1⟩ : ∃ rs, Recs W a1 len1 rs := recs_of h1
  clear hA0 hval0
  refine (joined_all a0 len0 cap0 z0 a1 len1 cap1 z1 W w0 w1).mono fun e W' ⟨he, bel⟩ => ?_
  subst he
  exact ⟨_, rfl, _, _, _, [], _, [], hW', trodAll_mk1 (shut_bool Try.underlying4 _), (trodAll_cons_mk (Below.trod laidOut (by kernel_rfl) (of_decide_eq_true (by kernel_rfl)) k0 bel lt0) (trodAll_cons_mk (Below.trod laidOut (by kernel_rfl) (of_decide_eq_true (by kernel_rfl)) k1 bel lt1) trodAll_mk0)), rfl, bel.frame _, fun h => by cases h⟩

theorem over : Rows.fnCombineOfJoinedListsIsBetterOfPartsRow.holds Try.pinned (OpenSpec.ofChange Rows.fnCombineOfJoinedListsIsBetterOfPartsSpec) :=
  OpenClaim.holds_of_wide 4 Try.f4 rfl rfl rfl rfl rfl rfl rfl ⟨rfl, rfl, rfl, rfl, rfl⟩ rfl rfl rfl rfl rfl (by kernel_rfl) Try.func4 (by kernel_rfl)
    (of_decide_eq_true (by kernel_rfl)) (by unfold Func.isWrapper; first | (rw [if_pos (by decide +kernel)]; kernel_rfl) | (rw [if_neg (by decide +kernel)]; exact ⟨rfl, rfl⟩))
    (fun os started H enc _ => lifted os started H enc)

/-- ████ THE STATEMENT ████ -/
theorem proved : Rows.FnCombineOfJoinedListsIsBetterOfPartsSaid := over
#print axioms proved
end Go.Proofs.Qxb6632316a.fnCombineOfJoinedListsIsBetterOfParts
