/-
  (ID).String (function 6), seat b6632216a.
-/
import Derived.Test.Qxb6632216aDivMod
import Derived.Test.Qxb6632216aDec
import Derived.Laws.IdiomStrings
namespace Go.Proofs.Qxb6632216a
open Go.RowKit Go.WideShapes
set_option linter.unusedVariables false

def bstr (l : List UInt8) : ByteArray := ⟨l.toArray⟩

theorem bcell {W w1 : World} (hb : Below W.heap.size W w1) : (∀ b o, b < W.heap.size → w1.cell? ⟨b, o, none⟩ = W.cell? ⟨b, o, none⟩) ∧ (∀ b o, b < W.heap.size → w1.frozen? ⟨b, o, none⟩ = W.frozen? ⟨b, o, none⟩) :=
  ⟨fun b o h => hb.cell (p := ⟨b, o, none⟩) h, fun b o h => hb.frozen (p := ⟨b, o, none⟩) h⟩

theorem zero_cell (C : Array Value) (hC : C = Array.replicate 49 (.int .u8 0)) (w : World) (t : TypeId) (B : Nat) (hB : B = w.heap.size) (j : Nat) (hj : j < 49) : (w.alloc (.cells C t)).cell? ⟨B, j, none⟩ = some (.int .u8 0) := by
  subst hB
  rw [World.cell?_alloc_mark, hC]
  simp [hj]

/-- What holds at the head of the loop: m bytes of the buffer are still free. -/
structure St (w wr : World) (V : Int) (m : Nat) : Prop where
  below : Below w.heap.size w wr
  size : w.heap.size + 1 < wr.heap.size
  lem : m ≤ 49
  rest : ∃ (a b c U : Int) (tail : List UInt8), Words a b c U ∧ U < 10 ^ m ∧ U < 1461501637330902918203684832716283019655932542976 ∧ D V = dec m U ++ tail ∧ tail.length = 49 - m ∧
    wr.cell? ⟨w.heap.size, 0, none⟩ = some (.int .u64 a) ∧ wr.cell? ⟨w.heap.size, 1, none⟩ = some (.int .u64 b) ∧ wr.cell? ⟨w.heap.size, 2, none⟩ = some (.int .u64 c) ∧
    (∀ o, wr.frozen? ⟨w.heap.size, o, none⟩ = false) ∧ (∀ o, wr.frozen? ⟨w.heap.size + 1, o, none⟩ = false) ∧
    (∀ j, j < 49 → ∃ v, wr.cell? ⟨w.heap.size + 1, j, none⟩ = some v) ∧
    (∀ j (hj : j < tail.length), wr.cell? ⟨w.heap.size + 1, m + j, none⟩ = some (.int .u8 (tail[j].toNat : Int)))

theorem addr_ne_off {b o o' : Nat} (h : o ≠ o') : (⟨b, o, none⟩ : Addr) ≠ ⟨b, o', none⟩ := by
  intro e; exact h (congrArg Addr.off e)
theorem addr_ne_block {b b' o o' : Nat} (h : b ≠ b') : (⟨b, o, none⟩ : Addr) ≠ ⟨b', o', none⟩ := by
  intro e; exact h (congrArg Addr.block e)

theorem cellSame {w : World} {a : Addr} {v u : Value} (h : w.cell? a = some u) : (w.setCell a v).cell? a = some v := World.cell?_setCell_same _ _ _ h
theorem cellOther {w : World} {a b : Addr} {v : Value} (h : a ≠ b) : (w.setCell a v).cell? b = w.cell? b := World.cell?_setCell_other _ _ _ _ h

/-- The world behind one round: three words stored, then one byte. -/
def rnd (w1 : World) (B m : Nat) (x y z r : Int) : World := (((w1.setCell ⟨B, 0, none⟩ (.int .u64 x)).setCell ⟨B, 1, none⟩ (.int .u64 y)).setCell ⟨B, 2, none⟩ (.int .u64 z)).setCell ⟨B + 1, m, none⟩ (.int .u8 (48 + r))

theorem rnd_byte (w1 : World) (B m : Nat) (x y z r : Int) {v : Value} (h : w1.cell? ⟨B + 1, m, none⟩ = some v) : (rnd w1 B m x y z r).cell? ⟨B + 1, m, none⟩ = some (.int .u8 (48 + r)) := by
  unfold rnd
  refine cellSame (u := v) ?_
  rw [cellOther (addr_ne_block (by omega)), cellOther (addr_ne_block (by omega)), cellOther (addr_ne_block (by omega)), h]
theorem rnd_far (w1 : World) (B m : Nat) (x y z r : Int) (j : Nat) (hj : m ≠ j) : (rnd w1 B m x y z r).cell? ⟨B + 1, j, none⟩ = w1.cell? ⟨B + 1, j, none⟩ := by
  unfold rnd
  rw [cellOther (addr_ne_off hj), cellOther (addr_ne_block (by omega)), cellOther (addr_ne_block (by omega)), cellOther (addr_ne_block (by omega))]
theorem rnd_words (w1 : World) (B m : Nat) (x y z r : Int) {a b c : Value} (h0 : w1.cell? ⟨B, 0, none⟩ = some a) (h1 : w1.cell? ⟨B, 1, none⟩ = some b) (h2 : w1.cell? ⟨B, 2, none⟩ = some c) :
    (rnd w1 B m x y z r).cell? ⟨B, 0, none⟩ = some (.int .u64 x) ∧ (rnd w1 B m x y z r).cell? ⟨B, 1, none⟩ = some (.int .u64 y) ∧ (rnd w1 B m x y z r).cell? ⟨B, 2, none⟩ = some (.int .u64 z) := by
  unfold rnd
  refine ⟨?_, ?_, ?_⟩
  · rw [cellOther (addr_ne_block (by omega)), cellOther (addr_ne_off (by decide)), cellOther (addr_ne_off (by decide))]
    exact cellSame h0
  · rw [cellOther (addr_ne_block (by omega)), cellOther (addr_ne_off (by decide))]
    refine cellSame (u := b) ?_
    rw [cellOther (addr_ne_off (by decide)), h1]
  · rw [cellOther (addr_ne_block (by omega))]
    refine cellSame (u := c) ?_
    rw [cellOther (addr_ne_off (by decide)), cellOther (addr_ne_off (by decide)), h2]
theorem rnd_below {w w1 : World} (m : Nat) (x y z r : Int) (h : Below w.heap.size w w1) : Below w.heap.size w (rnd w1 w.heap.size m x y z r) := by
  unfold rnd
  exact (((h.setCell (Nat.le_refl _) _).setCell (Nat.le_refl _) _).setCell (Nat.le_refl _) _).setCell (Nat.le_succ _) _
theorem rnd_frozen (w1 : World) (B m : Nat) (x y z r : Int) (p : Addr) : (rnd w1 B m x y z r).frozen? p = w1.frozen? p := by simp [rnd]
theorem rnd_size (w1 : World) (B m : Nat) (x y z r : Int) : (rnd w1 B m x y z r).heap.size = w1.heap.size := by simp [rnd]

/-- The bytes behind one round. -/
theorem rnd_tail {w1 : World} {B m : Nat} {x y z r : Int} {tail : List UInt8} {v : Value} (h0 : 0 ≤ r) (h1 : r ≤ 9) (h : w1.cell? ⟨B + 1, m, none⟩ = some v) (ht : ∀ j (hj : j < tail.length), w1.cell? ⟨B + 1, m + 1 + j, none⟩ = some (.int .u8 (tail[j].toNat : Int))) :
    ∀ j (hj : j < (dg r :: tail).length), (rnd w1 B m x y z r).cell? ⟨B + 1, m + j, none⟩ = some (.int .u8 ((dg r :: tail)[j].toNat : Int)) := by
  intro j hj
  cases j with
  | zero =>
    rw [show m + 0 = m from rfl, rnd_byte w1 B m x y z r h]
    simp only [List.getElem_cons_zero]
    rw [dg_toNat r h0 h1]
  | succ j =>
    have e : m + (j + 1) = m + 1 + j := by omega
    rw [e, rnd_far _ _ _ _ _ _ _ _ (by omega), ht j (by simpa using hj)]
    rfl

theorem St.next {w wr w1 : World} {V : Int} {m : Nat} (hbel : Below w.heap.size w wr) (hsz : w.heap.size + 1 < wr.heap.size) (hm : m + 1 ≤ 49) {a b c U : Int} {tail : List UInt8} (hW : Words a b c U) (hU : U < 10 ^ (m + 1)) (hU2 : U < 1461501637330902918203684832716283019655932542976)
    (hD : D V = dec (m + 1) U ++ tail) (ht : tail.length = 49 - (m + 1)) (k0 : wr.cell? ⟨w.heap.size, 0, none⟩ = some (.int .u64 a)) (k1 : wr.cell? ⟨w.heap.size, 1, none⟩ = some (.int .u64 b)) (k2 : wr.cell? ⟨w.heap.size, 2, none⟩ = some (.int .u64 c))
    (f0 : ∀ o, wr.frozen? ⟨w.heap.size, o, none⟩ = false) (f1 : ∀ o, wr.frozen? ⟨w.heap.size + 1, o, none⟩ = false)
    (hold : ∀ j, j < 49 → ∃ v, wr.cell? ⟨w.heap.size + 1, j, none⟩ = some v) (htail : ∀ j (hj : j < tail.length), wr.cell? ⟨w.heap.size + 1, m + 1 + j, none⟩ = some (.int .u8 (tail[j].toNat : Int)))
    (hb : Below wr.heap.size wr w1) {x y z : Int} (hX : Words x y z (U / 10)) (hn : U / 10 ≠ 0) {r : Int} (hr : U % 10 = r) : 0 < m ∧ St w (rnd w1 w.heap.size m x y z r) V m := by
  obtain ⟨hc, hf⟩ := bcell hb
  have hlo := hW.lo
  have hs1 : wr.heap.size ≤ w1.heap.size := hb.size
  rw [Int.pow_succ] at hU
  have hU' : U / 10 < 10 ^ m := by omega
  have hm0 : 0 < m := by
    rcases Nat.eq_zero_or_pos m with rfl | h
    · simp at hU'; omega
    · exact h
  obtain ⟨v, hv⟩ := hold m (by omega)
  have g0 := hc w.heap.size 0 (by omega)
  have g1 := hc w.heap.size 1 (by omega)
  have g2 := hc w.heap.size 2 (by omega)
  rw [k0] at g0; rw [k1] at g1; rw [k2] at g2
  obtain ⟨q0, q1, q2⟩ := rnd_words w1 w.heap.size m x y z r g0 g1 g2
  have hv1 : w1.cell? ⟨w.heap.size + 1, m, none⟩ = some v := by rw [hc _ _ hsz, hv]
  refine ⟨hm0, rnd_below m x y z r (hbel.trans (hb.mono (by omega))), by rw [rnd_size]; omega, by omega, x, y, z, U / 10, dg r :: tail, hX, hU', by omega, ?_, by simp; omega, q0, q1, q2, ?_, ?_, ?_, ?_⟩
  · rw [hD, dec_more m U hn, hr]; simp
  · intro o; rw [rnd_frozen, hf _ _ (by omega)]; exact f0 o
  · intro o; rw [rnd_frozen, hf _ _ (by omega)]; exact f1 o
  · intro j hj
    by_cases e : m = j
    · subst e; exact ⟨_, rnd_byte w1 _ m x y z r hv1⟩
    · rw [rnd_far _ _ _ _ _ _ _ _ e, hc _ _ hsz]; exact hold j hj
  · exact rnd_tail (by omega) (by omega) hv1 (fun j hj => by rw [hc _ _ hsz]; exact htail j hj)

theorem sliceBuf (B m : Nat) (hm : m < 49) (W : World) : (Instr.sliceAt 32 (.pointer (some ⟨B, 0, none⟩)) (some (.int .i64 (m : Int))) none none).run Try.prog W = .ok (.slice (some ⟨B, m, none⟩) (49 - m) (49 - m)) W := by
  have e : Try.prog.arrayLen 32 = 49 := by kernel_rfl
  rw [run_sliceAt_array_l (P := Try.prog) W 32 ⟨B, 0, none⟩ (by kernel_rfl) .i64 (m : Int) (by omega) (by rw [e]; omega), e]
  have hz : (sizeOf (Try.prog.elem 32)).run Try.prog W = .ok 1 W := by kernel_rfl
  rw [hz]
  have h : ¬ (49 : Nat) = m := by omega
  by_cases hz : m = 0
  · subst hz; simp [slicedAt, Result.andThen, Addr.add]
  · simp [slicedAt, Result.andThen, Addr.add, h, hz]

set_option maxHeartbeats 400000 in
theorem string_any (a b c V : Int) (h : Words a b c V) (hV : V < 1461501637330902918203684832716283019655932542976) (w : World) :
    Calls Try.prog 6 #[.agg #[.int .u64 a, .int .u64 b, .int .u64 c]] w fun e w' => e = .returned (.string (bstr (D V))) ∧ Below w.heap.size w w' := by
  go_enter Try.func6, Try.ntmps6
  go_wp2_with fail
  go_loopw [4] (fun i wr => ∃ m : Nat, 0 < m ∧ i = .int .i64 m ∧ St w wr V m) (fun i wr => (intOf i).toNat)
  case atStart =>
    refine ⟨49, by decide, rfl, ?_, by simp, Nat.le_refl _, a, b, c, V, [], h, lim160 hV, hV, by simp [D], rfl, by simp [go_sem], by simp [go_sem], by simp [go_sem], by simp [go_sem], by simp [go_sem], ?_, by simp⟩
    · exact ((Below.refl _ _).alloc (Nat.le_refl _) _).alloc (by simp) _
    · intro j hj
      exact ⟨.int .u8 0, zero_cell _ rfl _ _ _ (by simp) j hj⟩
  case round =>
    obtain ⟨m, hm, rfl, ⟨hbel, hsz, hlem, a', b', c', U, tail, hW, hU, hU2, hD, htl, k0, k1, k2, f0, f1, hold, htail⟩⟩ := hrel
    obtain ⟨m, rfl⟩ : ∃ n, m = n + 1 := ⟨m - 1, by omega⟩
    obtain ⟨x, y, z, hX⟩ := words_ex (U / 10) (by have := hW.lo; omega) (by have := hW.hi; have := hW.lo; omega)
    obtain ⟨ov, hov⟩ := hold m (by omega)
    have HN : Hid (U / 10 ≠ 0 → ∀ w1, Below wr.heap.size wr w1 → 0 < m ∧ St w (rnd w1 w.heap.size m x y z (U % 10)) V m) := fun hn w1 hb => St.next hbel hsz hlem hW hU hU2 hD htl k0 k1 k2 f0 f1 hold htail hb hX hn rfl
    have HE : Hid (U / 10 = 0 → ∀ w1, Below wr.heap.size wr w1 → ∀ j (hj : j < (D V).length), (rnd w1 w.heap.size m x y z (U % 10)).cell? ⟨w.heap.size + 1, m + j, none⟩ = some (.int .u8 ((D V)[j].toNat : Int))) := by
      intro he w1 hb
      have e1 : D V = dg (U % 10) :: tail := by rw [hD, dec_last m U he]; rfl
      obtain ⟨hc, hf⟩ := bcell hb
      intro j hj
      have := rnd_tail (w1 := w1) (B := w.heap.size) (m := m) (x := x) (y := y) (z := z) (r := U % 10) (tail := tail) (v := ov) (by omega) (by omega) (by rw [hc _ _ hsz, hov]) (fun j hj => by rw [hc _ _ hsz]; exact htail j hj) j (by rw [← e1]; exact hj)
      rw [this]
      simp only [e1]
    have HL : Hid (U / 10 = 0 → (D V).length = 49 - m) := by
      intro he
      have e1 : D V = dg (U % 10) :: tail := by rw [hD, dec_last m U he]; rfl
      rw [e1]; simp; omega
    have hr0 : 0 ≤ U % 10 := by omega
    have hr1 : U % 10 ≤ 9 := by omega
    have i0 : (0 : Int) ≤ (m : Int) := by omega
    have i1 : (m : Int) < 49 := by omega
    have hsz0 : w.heap.size < wr.heap.size := by omega
    clear hD htl hold htail hm hlem hU hU2 hV h
    by_cases hz : U / 10 = 0
    · obtain ⟨rfl, rfl, rfl⟩ := hX.zero_iff.1 hz
      have HZ : Hid (U / 10 = 0) := hz
      clear hz
      go_wp2_with fail
      refine (divMod10 hW hX _).mono ?_
      rintro e w1 ⟨rfl, hb⟩
      obtain ⟨hc, hf⟩ := bcell hb
      generalize U % 10 = r at *
      have hsl := sliceBuf (w.heap.size + 1) m (by omega)
      have hcv := run_convert_bytes_back (P := Try.prog) (rnd w1 w.heap.size m 0 0 0 r) 30 9 5 ⟨w.heap.size + 1, m, none⟩ (49 - m) (D V) Try.underlying30 Try.underlying5 Try.underlying9 (by
        intro j hj
        rw [add_plain]
        exact HE.out HZ.out w1 hb j hj)
      rw [HL.out HZ.out] at hcv
      unfold rnd at hcv
      go_wp2
      go_ret
      exact ⟨rfl, rnd_below m 0 0 0 r (hbel.trans (hb.mono (by omega)))⟩
    · have HZ : Hid (U / 10 ≠ 0) := hz
      have hxyz : ¬ (x = 0 ∧ y = 0 ∧ z = 0) := fun h => hz (hX.zero_iff.2 h)
      clear hz HE HL
      have fin : Hid (∀ w1, Below wr.heap.size wr w1 → (∃ k : Nat, 0 < k ∧ Value.int IntKind.i64 (m : Int) = .int .i64 k ∧ St w (rnd w1 w.heap.size m x y z (U % 10)) V k) ∧ (intOf (Value.int IntKind.i64 (m : Int))).toNat < (intOf (Value.int IntKind.i64 ((m + 1 : Nat) : Int))).toNat) := by
        intro w1 hb
        obtain ⟨h1, h2⟩ := HN.out HZ.out w1 hb
        exact ⟨⟨m, h1, rfl, h2⟩, by simp [intOf]⟩
      clear HN HZ
      by_cases hx : x = 0
      · subst hx
        by_cases hy : y = 0
        · subst hy
          have hz : ¬ z = 0 := by simpa using hxyz
          clear hxyz
          go_wp2_with fail
          refine (divMod10 hW hX _).mono ?_
          rintro e w1 ⟨rfl, hb⟩
          obtain ⟨hc, hf⟩ := bcell hb
          generalize U % 10 = r at *
          go_wp2
          exact fin.out w1 hb
        · clear hxyz
          go_wp2_with fail
          refine (divMod10 hW hX _).mono ?_
          rintro e w1 ⟨rfl, hb⟩
          obtain ⟨hc, hf⟩ := bcell hb
          generalize U % 10 = r at *
          go_wp2
          exact fin.out w1 hb
      · clear hxyz
        go_wp2_with fail
        refine (divMod10 hW hX _).mono ?_
        rintro e w1 ⟨rfl, hb⟩
        obtain ⟨hc, hf⟩ := bcell hb
        generalize U % 10 = r at *
        go_wp2
        exact fin.out w1 hb
end Go.Proofs.Qxb6632216a
