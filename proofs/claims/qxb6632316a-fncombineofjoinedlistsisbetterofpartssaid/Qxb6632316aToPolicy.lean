/-
  THE CONTRACT of toPolicy (7), seat b6632316a.
-/
import Derived.Test.Qxb6632316aLeaf
import Derived.Lib.SliceRun
namespace Go.Proofs.Qxb6632316a
open Go.RowKit
set_option linter.unusedVariables false

/-- Cell j of a row of records. -/
def rc (rs : List Rec) (j : Nat) : Value := if j % 3 = 0 then .string (el rs (j / 3)).act else if j % 3 = 1 then .int .i64 (el rs (j / 3)).pri else .string (el rs (j / 3)).id
theorem rc_0 (rs : List Rec) (i : Nat) : rc rs (i * 3) = .string (el rs i).act := by
  rw [rc, if_pos (by omega), show i * 3 / 3 = i from by omega]
theorem rc_1 (rs : List Rec) (i : Nat) : rc rs (i * 3 + 1) = .int .i64 (el rs i).pri := by
  rw [rc, if_neg (by omega), if_pos (by omega), show (i * 3 + 1) / 3 = i from by omega]
theorem rc_2 (rs : List Rec) (i : Nat) : rc rs (i * 3 + 2) = .string (el rs i).id := by
  rw [rc, if_neg (by omega), if_neg (by omega), show (i * 3 + 2) / 3 = i from by omega]

theorem Try.info39 : (Try.prog.info? 39).map (fun i => (i.zero, i.size, i.bytes)) = some (some (.agg #[.string ⟨#[]⟩, .int .i64 0, .string ⟨#[]⟩]), 3, 40) := by kernel_rfl

/-- 'make([]policy.Execute, l, c)'. -/
theorem make39 (l c : Nat) (hlc : l ≤ c) (hc : c ≤ 4194304) (W : World) : (Instr.makeSlice 26 (.int .i64 (l : Int)) (.int .i64 (c : Int))).run Try.prog W = .ok (.slice (some ⟨W.heap.size, 0, none⟩) l c) (W.alloc (.cells (madeCells #[.string ⟨#[]⟩, .int .i64 0, .string ⟨#[]⟩] (c * 3)) 39)) := by
  obtain ⟨i, hi, hz, hs, hb⟩ := info_parts Try.info39
  have h := run_make (P := Try.prog) W 26 39 i _ Try.underlying26 hi hz .i64 .i64 (l : Int) (c : Int) (by omega) (by omega) (by rw [hb]; omega) (by omega)
  rw [hs] at h
  simpa [Value.cells] using h

/-- What toPolicy leaves: nil, or a new row with the same records. -/
def ToPol (rs : List Rec) (len : Nat) (w : World) (e : Ending) (w' : World) : Prop :=
  (e = .returned (.slice none 0 0) ∧ len = 0 ∧ w' = w) ∨
  (e = .returned (.slice (some ⟨w.heap.size, 0, none⟩) len len) ∧ w'.rowIs w.heap.size 39 (len * 3) (rc rs) ∧ w'.heap.size = w.heap.size + 1 ∧ Below w.heap.size w w')

/-- The world behind one round. -/
def three (wr : World) (B k : Nat) (ra : ByteArray) (rp : Int) (ri : ByteArray) : World := (((wr.setCell ⟨B, k * 3, none⟩ (.string ra)).setCell ⟨B, k * 3 + 1, none⟩ (.int .i64 rp)).setCell ⟨B, k * 3 + 2, none⟩ (.string ri)).drew

theorem made_row (w : World) (n : Nat) (t : TypeId) (z : Array Value) : ∃ f, (w.alloc (.cells (madeCells z n) t)).rowIs w.heap.size t n f :=
  ⟨fun i => z[i % z.size]!, _, Go.Deep.blk_alloc_new _ _, size_madeCells _ _, fun i hi => by simp [madeCells, hi]⟩

set_option maxHeartbeats 1000000 in
theorem toPolicy (a : Option Addr) (len cap : Nat) (rs : List Rec) (w : World) (hs : Recs w a len rs) (hl : len ≤ 1048576) :
    Calls Try.prog 7 #[.slice a len cap] w (ToPol rs len w) := by
  have hnil := fun W => Lib.run_eql_slice_nil (P := Try.prog) W 22 31 a len cap 0 0 Try.underlying22
  cases ha : a with
  | none =>
    subst ha
    have hl0 : len = 0 := by
      rcases Nat.eq_zero_or_pos len with h | h
      · exact h
      · obtain ⟨b, off, e, _⟩ := hs.hat h
        cases e
    subst hl0
    clear hs hl
    go_enter Try.func7, Try.ntmps7
    go_wp2
    go_ret
    exact .inl ⟨rfl, rfl, rfl⟩
  | some ad =>
    subst ha
    have hmk := make39 len len (Nat.le_refl _) (by omega)
    go_enter Try.func7, Try.ntmps7
    go_wp2_with fail
    go_loopw [4] (fun i wr => ∃ k : Nat, k ≤ len ∧ i = .int .i64 k ∧ Below w.heap.size w wr ∧ wr.heap.size = w.heap.size + 1 ∧ ∃ f, wr.rowIs w.heap.size 39 (len * 3) f ∧ ∀ j, j < k * 3 → f j = rc rs j) (fun i _ => len - (intOf i).toNat)
    case atStart =>
      obtain ⟨f, hf⟩ := made_row w (len * 3) 39 #[.string ⟨#[]⟩, .int .i64 0, .string ⟨#[]⟩]
      exact ⟨0, Nat.zero_le _, rfl, (Below.refl _ _).alloc (Nat.le_refl _) _, by simp, f, hf, fun j hj => by omega⟩
    case round =>
      obtain ⟨k, hk, rfl, hbel, hsz, f, hrow, hf⟩ := hrel
      by_cases hlt : k < len
      · obtain ⟨b, off, e, hb, hc⟩ := hs.hat (by omega)
        obtain rfl : ad = ⟨b, off, none⟩ := by simpa using e
        obtain ⟨c0, c1, c2⟩ := hc k (by rw [hs.hlen]; exact hlt)
        rw [← hbel.cell (p := ⟨b, off + k * 3, none⟩) hb] at c0
        rw [← hbel.cell (p := ⟨b, off + k * 3 + 1, none⟩) hb] at c1
        rw [← hbel.cell (p := ⟨b, off + k * 3 + 2, none⟩) hb] at c2
        have he := el_lt rs k (by rw [hs.hlen]; exact hlt)
        generalize hr : rs[k]'(by rw [hs.hlen]; exact hlt) = r at *
        have r0 := hrow.cell (i := k * 3) (by omega)
        have r1 := hrow.cell (i := k * 3 + 1) (by omega)
        have r2 := hrow.cell (i := k * 3 + 2) (by omega)
        have z0 := hrow.frozen (k * 3)
        have z1 := hrow.frozen (k * 3 + 1)
        have z2 := hrow.frozen (k * 3 + 2)
        have hbw : w.heap.size ≠ b := by omega
        have hbw2 : b ≠ w.heap.size := by omega
        have HE : Hid (el rs k = r) := he
        generalize g0 : r.act = ra at *
        generalize g1 : r.pri = rp at *
        generalize g2 : r.id = ri at *
        have HF : Hid ((∃ k' : Nat, k' ≤ len ∧ Value.int .i64 ((k : Int) + 1) = .int .i64 k' ∧ Below w.heap.size w (three wr w.heap.size k ra rp ri) ∧ (three wr w.heap.size k ra rp ri).heap.size = w.heap.size + 1 ∧ ∃ f, (three wr w.heap.size k ra rp ri).rowIs w.heap.size 39 (len * 3) f ∧ ∀ j, j < k' * 3 → f j = rc rs j) ∧ len - (intOf (Value.int .i64 ((k : Int) + 1))).toNat < len - (intOf (Value.int .i64 (k : Int))).toNat) := by
          refine ⟨⟨k + 1, by omega, by go_num, (((hbel.setCell (Nat.le_refl _) _).setCell (Nat.le_refl _) _).setCell (Nat.le_refl _) _).drew, by simp [three, hsz], _, (((hrow.set (k * 3) _).set (k * 3 + 1) _).set (k * 3 + 2) _).drew, fun j hj => ?_⟩, by simp [intOf]; omega⟩
          by_cases e2 : j = k * 3 + 2
          · subst e2; rw [if_pos rfl, rc_2, he, g2]
          · rw [if_neg e2]
            by_cases e1 : j = k * 3 + 1
            · subst e1; rw [if_pos rfl, rc_1, he, g1]
            · rw [if_neg e1]
              by_cases e0 : j = k * 3
              · subst e0; rw [if_pos rfl, rc_0, he, g0]
              · rw [if_neg e0]; exact hf j (by omega)
        clear hc hs hnil hmk he hr e HE g0 g1 g2
        go_wp2_with fail
        go_region
        go_wp2
        exact HF.out
      · obtain rfl : len = k := by omega
        clear hs hnil hmk
        go_wp2
        go_ret
        exact .inr ⟨rfl, hrow.congr hf, hsz, hbel⟩
end Go.Proofs.Qxb6632316a
