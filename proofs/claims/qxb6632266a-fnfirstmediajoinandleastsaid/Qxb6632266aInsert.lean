/-
  THE WALK of FnFirstMediaInsertAnywhere (function 4), seat b6632266a.
-/
import Derived.Test.Qxb6632266aBase
import Derived.LaidEqlPtr
namespace Go.Proofs.Qxb6632266a
open Go.RowKit
set_option linter.unusedVariables false

theorem Try.info26 : (Try.prog.info? 26).map (fun i => (i.zero, i.size, i.bytes)) = some (some (.pointer none), 1, 8) := by kernel_rfl

/-- The media made so far: k of them, over the row at block B: element j is a pointer to block B + 1 + j. -/
structure Made (w : World) (B m k : Nat) (ss : List ByteArray) (wr : World) : Prop where
  below : Below w.heap.size w wr
  size : wr.heap.size = B + 1 + k
  row : wr.rowIs B 26 m (fun j => if j < k then .pointer (some ⟨B + 1 + j, 0, none⟩) else .pointer none)
  med : ∀ j (h : j < ss.length), j < k → wr.cell? ⟨B + 1 + j, 0, none⟩ = some (.string ss[j])
  blk : ∀ j, j < k → ∃ c t, wr.heap[B + 1 + j]? = some (.cells c t (0, 0))

/-- A media block: its first cell is the type. -/
def mcells (s : ByteArray) : Array Value := #[.string s, .string ⟨#[]⟩, .string ⟨#[]⟩, .slice none 0 0, .slice none 0 0]

theorem Made.start (w : World) (m : Nat) (ss : List ByteArray) : Made w w.heap.size m 0 ss (w.alloc (.cells (madeCells #[.pointer none] m) 26)) := by
  refine ⟨(Below.refl _ _).alloc (Nat.le_refl _) _, by simp, ?_, (fun j h hj => by omega), (fun j hj => by omega)⟩
  exact (World.rowIs_made w (.pointer none) m 26).congr fun i hi => by simp

theorem Made.step {w : World} {m k : Nat} {ss : List ByteArray} {wr : World} (h : Made w w.heap.size m k ss wr) (hk : k < m) (s : ByteArray) (hs : ∀ hk : k < ss.length, ss[k] = s) :
    Made w w.heap.size m (k + 1) ss ((wr.setCell ⟨w.heap.size, k, none⟩ (.pointer (some ⟨wr.heap.size, 0, none⟩))).alloc (.cells (mcells s) 30)) := by
  obtain ⟨hb, hz, hr, hm, hk'⟩ := h
  rw [hz]
  have hs1 : (wr.setCell ⟨w.heap.size, k, none⟩ (.pointer (some ⟨w.heap.size + 1 + k, 0, none⟩))).heap.size = w.heap.size + 1 + k := by simp [hz]
  refine ⟨(hb.setCell (Nat.le_refl _) _).alloc (by omega) _, by simp; omega, ?_, ?_, ?_⟩
  · refine ((hr.set k _).alloc _).congr fun i hi => ?_
    by_cases e : i = k
    · subst e; simp
    · by_cases e2 : i < k
      · simp [e, e2, show i < k + 1 from by omega]
      · simp [e, e2, show ¬ i < k + 1 from by omega]
  · intro j hj hjk
    by_cases e : j = k
    · subst e
      rw [hs hj]
      have : (⟨w.heap.size + 1 + j, 0, none⟩ : Addr) = ⟨(wr.setCell ⟨w.heap.size, j, none⟩ (.pointer (some ⟨w.heap.size + 1 + j, 0, none⟩))).heap.size, 0, none⟩ := by rw [hs1]
      rw [this]
      simp [go_sem, mcells]
    · have h1 := hm j hj (by omega)
      rw [((Below.refl _ (wr.setCell ⟨w.heap.size, k, none⟩ (.pointer (some ⟨w.heap.size + 1 + k, 0, none⟩)))).alloc (Nat.le_refl _) (.cells (mcells s) 30)).cell (p := ⟨w.heap.size + 1 + j, 0, none⟩) (by simp; omega)]
      rw [World.cell?_setCell_other _ _ _ _ (by intro e; have := congrArg Addr.block e; simp at this; omega), h1]
  · intro j hj
    by_cases e : j = k
    · subst e
      have hn := Go.Deep.blk_alloc_new (wr.setCell ⟨w.heap.size, j, none⟩ (.pointer (some ⟨w.heap.size + 1 + j, 0, none⟩))) (.cells (mcells s) 30)
      rw [hs1] at hn
      exact ⟨_, _, hn⟩
    · obtain ⟨c, t, hct⟩ := hk' j (by omega)
      refine ⟨c, t, ?_⟩
      rw [Below.heap_alloc _ _ _ (by omega), Below.heap_setCell _ _ _ _ (by simp; omega), hct]

/-- A second row, written cell by cell; nothing else turns. -/
structure Cop (w3 : World) (R n : Nat) (f : Nat → Value) (wr : World) : Prop where
  below : Below R w3 wr
  size : wr.heap.size = w3.heap.size
  row : wr.rowIs R 26 n f

theorem Cop.step {w3 : World} {R n : Nat} {f : Nat → Value} {wr : World} (h : Cop w3 R n f wr) (i : Nat) (v : Value) (g : Nat → Value) (hg : ∀ j, j < n → (if j = i then v else f j) = g j) : Cop w3 R n g (wr.setCell ⟨R, i, none⟩ v) :=
  ⟨h.below.setCell (Nat.le_refl _) _, by simp [h.size], (h.row.set i v).congr hg⟩

/-- The pointers of the longer row: x (block X) at place p. -/
def q2 (B p X j : Nat) : Nat := if j < p then B + 1 + j else if j = p then X else B + j

/-- The world behind the first loop, x and the second row made: what is known of it. -/
structure Two (w : World) (m X : Nat) (ss : List ByteArray) (u : ByteArray) (w3 : World) : Prop where
  below : Below w.heap.size w w3
  hX : w.heap.size + 1 + m = X
  size : w3.heap.size = X + 2
  ptr : ∀ i, i < m → w3.cell? ⟨w.heap.size, i, none⟩ = some (.pointer (some ⟨w.heap.size + 1 + i, 0, none⟩))
  med : ∀ i (h : i < ss.length), i < m → w3.cell? ⟨w.heap.size + 1 + i, 0, none⟩ = some (.string ss[i])
  xel : w3.cell? ⟨X, 0, none⟩ = some (.string u)
  blk : ∀ j, j < m → ∃ c t, w3.heap[w.heap.size + 1 + j]? = some (.cells c t (0, 0))
  cop : Cop w3 (X + 1) (m + 1) (fun _ => .pointer none) w3

theorem Made.two {w : World} {m : Nat} {ss : List ByteArray} {wr : World} (h : Made w w.heap.size m m ss wr) (u : ByteArray) :
    Two w m (w.heap.size + 1 + m) ss u ((wr.alloc (.cells (mcells u) 30)).alloc (.cells (madeCells #[.pointer none] (m + 1)) 26)) := by
  obtain ⟨hb, hz, hr, hm, hk⟩ := h
  have hbel : Below wr.heap.size wr ((wr.alloc (.cells (mcells u) 30)).alloc (.cells (madeCells #[.pointer none] (m + 1)) 26)) := ((Below.refl _ _).alloc (Nat.le_refl _) _).alloc (by simp) _
  have hs2 : (wr.alloc (.cells (mcells u) 30)).heap.size = w.heap.size + 1 + m + 1 := by simp [hz]
  refine ⟨hb.trans (hbel.mono (by omega)), rfl, by simp [hz], ?_, ?_, ?_, ?_, ?_⟩
  · intro i hi
    rw [hbel.cell (p := ⟨w.heap.size, i, none⟩) (by simp; omega), hr.cell hi, if_pos hi]
  · intro i h hi
    rw [hbel.cell (p := ⟨w.heap.size + 1 + i, 0, none⟩) (by simp; omega)]
    exact hm i h hi
  · have e : (⟨w.heap.size + 1 + m, 0, none⟩ : Addr) = ⟨wr.heap.size, 0, none⟩ := by rw [hz]
    rw [e]
    simp [go_sem, mcells]
  · intro j hj
    obtain ⟨c, t, hct⟩ := hk j hj
    exact ⟨c, t, by rw [hbel.block _ (by omega), hct]⟩
  · refine ⟨Below.refl _ _, rfl, ?_⟩
    have := World.rowIs_made (wr.alloc (.cells (mcells u) 30)) (.pointer none) (m + 1) 26
    rw [hs2] at this
    exact this

/-- Both rows stand. -/
structure Fin2 (w : World) (m p X : Nat) (ss : List ByteArray) (u : ByteArray) (wr : World) : Prop where
  below : Below w.heap.size w wr
  hX : w.heap.size + 1 + m = X
  ptr : ∀ i, i < m → wr.cell? ⟨w.heap.size, i, none⟩ = some (.pointer (some ⟨w.heap.size + 1 + i, 0, none⟩))
  blk : ∀ j, j < m → ∃ c t, wr.heap[w.heap.size + 1 + j]? = some (.cells c t (0, 0))
  med1 : Med wr (some ⟨w.heap.size, 0, none⟩) (fun j => w.heap.size + 1 + j) ss
  med2 : Med wr (some ⟨X + 1, 0, none⟩) (q2 w.heap.size p X) (ins ss p u)

theorem Two.fin {w : World} {m p X : Nat} {ss : List ByteArray} {u : ByteArray} {w3 wr : World} (h : Two w m X ss u w3) (hl : ss.length = m) (hm : m ≤ 1048576) (hp : p ≤ m)
    (hC : Cop w3 (X + 1) (m + 1) (fun j => if j < p then .pointer (some ⟨w.heap.size + 1 + j, 0, none⟩) else if j = p then .pointer (some ⟨X, 0, none⟩) else if j < m + 1 then .pointer (some ⟨w.heap.size + j, 0, none⟩) else .pointer none) wr) : Fin2 w m p X ss u wr := by
  have hX := h.hX
  have hil := ins_length ss p u (by omega)
  refine ⟨h.below.trans (hC.below.mono (by omega)), h.hX, ?_, ?_, ⟨by omega, fun _ => ⟨_, 0, rfl, fun i hi => ⟨?_, ?_⟩⟩⟩, ⟨by omega, fun _ => ⟨_, 0, rfl, fun i hi => ⟨?_, ?_⟩⟩⟩⟩
  · intro i hi
    rw [hC.below.cell (p := ⟨w.heap.size, i, none⟩) (show w.heap.size < X + 1 by omega)]
    exact h.ptr i hi
  · intro j hj
    obtain ⟨c, t, hct⟩ := h.blk j hj
    exact ⟨c, t, by rw [hC.below.block _ (by omega), hct]⟩
  · rw [Nat.zero_add, hC.below.cell (p := ⟨w.heap.size, i, none⟩) (show w.heap.size < X + 1 by omega)]
    exact h.ptr i (by omega)
  · rw [hC.below.cell (p := ⟨w.heap.size + 1 + i, 0, none⟩) (show w.heap.size + 1 + i < X + 1 by omega)]
    exact h.med i hi (by omega)
  · rw [Nat.zero_add, hC.row.cell (i := i) (by omega)]
    unfold q2
    by_cases h1 : i < p
    · rw [if_pos h1, if_pos h1]
    · rw [if_neg h1, if_neg h1]
      by_cases h2 : i = p
      · rw [if_pos h2, if_pos h2]
      · rw [if_neg h2, if_neg h2, if_pos (by omega)]
  · unfold q2
    by_cases h1 : i < p
    · rw [if_pos h1, hC.below.cell (p := ⟨w.heap.size + 1 + i, 0, none⟩) (show w.heap.size + 1 + i < X + 1 by omega), ins_lt ss p u (by omega) i h1]
      exact h.med i (by omega) (by omega)
    · rw [if_neg h1]
      by_cases h2 : i = p
      · subst h2
        rw [if_pos rfl, hC.below.cell (p := ⟨X, 0, none⟩) (show X < X + 1 by omega), ins_at ss i u (by omega)]
        exact h.xel
      · obtain ⟨j, rfl⟩ : ∃ j, i = j + 1 := ⟨i - 1, by omega⟩
        rw [if_neg h2, show w.heap.size + (j + 1) = w.heap.size + 1 + j from by omega, hC.below.cell (p := ⟨w.heap.size + 1 + j, 0, none⟩) (show w.heap.size + 1 + j < X + 1 by omega), ins_gt ss p u (by omega) j (by omega) (by omega)]
        exact h.med j (by omega) (by omega)

theorem alloc_cell {w : World} {a : Addr} {v : Value} (h : w.cell? a = some v) (o : Obj) : (w.alloc o).cell? a = some v := by
  have b1 : a.block < w.heap.size := by
    rcases Nat.lt_or_ge a.block w.heap.size with h' | h'
    · exact h'
    · simp [World.cell?, Array.getElem?_eq_none h'] at h
  rw [((Below.refl w.heap.size w).alloc (Nat.le_refl _) o).cell (p := a) b1, h]

theorem alloc_block {w : World} {b : Nat} {o' : Obj} (h : w.heap[b]? = some o') (o : Obj) : (w.alloc o).heap[b]? = some o' := by
  have b1 : b < w.heap.size := by
    rcases Nat.lt_or_ge b w.heap.size with h' | h'
    · exact h'
    · simp [Array.getElem?_eq_none h'] at h
  rw [Below.heap_alloc _ _ _ b1, h]

/-! ### Pointers to media compared -/
theorem Try.info30 : ∃ j, Try.prog.info? 30 = some j ∧ j.size ≠ 0 := by
  have h : (Try.prog.info? 30).map (fun i => decide (i.size ≠ 0)) = some true := by kernel_rfl
  obtain ⟨j, hj, h2⟩ := Option.map_eq_some_iff.1 h
  exact ⟨j, hj, of_decide_eq_true h2⟩
theorem eq_same (W : World) (a : Addr) : (binOp .eql 26 (.pointer (some a)) (.pointer (some a))).run Try.prog W = .ok (.bool true) W := by
  obtain ⟨j, hj, _⟩ := Try.info30
  exact run_eql_ptr_same W a Try.underlying26 hj
theorem eq_other (W : World) {x y : Nat} (h : x ≠ y) (hx : ∃ c t, W.heap[x]? = some (.cells c t (0, 0))) (hy : ∃ c t, W.heap[y]? = some (.cells c t (0, 0))) : (binOp .eql 26 (.pointer (some ⟨x, 0, none⟩)) (.pointer (some ⟨y, 0, none⟩))).run Try.prog W = .ok (.bool false) W := by
  obtain ⟨j, hj, hs⟩ := Try.info30
  obtain ⟨c, t, hx⟩ := hx
  obtain ⟨c', t', hy⟩ := hy
  exact run_eql_ptr_other W Try.underlying26 hj hs (by intro e; exact h (congrArg Addr.block e)) hx hy

/-! ### What the two calls of FirstMedia answer -/
theorem ptr_some (q : Nat → Nat) (ts : List ByteArray) (typ : ByteArray) (h : fst ts typ < ts.length) : ptrAt q ts typ = .pointer (some ⟨q (fst ts typ), 0, none⟩) := by rw [ptrAt, if_pos h]
theorem ptr_none (q : Nat → Nat) (ts : List ByteArray) (typ : ByteArray) (h : ¬ fst ts typ < ts.length) : ptrAt q ts typ = .pointer none := by rw [ptrAt, if_neg h]
theorem after_new (B p X : Nat) (ss : List ByteArray) (u typ : ByteArray) (hp : p ≤ ss.length) (hu : (u.toList == typ.toList) = true) (h : p ≤ fst ss typ) : ptrAt (q2 B p X) (ins ss p u) typ = .pointer (some ⟨X, 0, none⟩) := by
  have e := fst_ins_new ss p u typ hp hu h
  rw [ptr_some _ _ _ (by rw [e, ins_length ss p u hp]; omega), e]
  simp [q2]
theorem after_lt (B p X : Nat) (ss : List ByteArray) (u typ : ByteArray) (hp : p ≤ ss.length) (h : fst ss typ < p) : ptrAt (q2 B p X) (ins ss p u) typ = .pointer (some ⟨B + 1 + fst ss typ, 0, none⟩) := by
  have e := fst_ins_lt ss p u typ hp h
  rw [ptr_some _ _ _ (by rw [e, ins_length ss p u hp]; omega), e]
  simp [q2, h]
theorem after_ge (B p X : Nat) (ss : List ByteArray) (u typ : ByteArray) (hp : p ≤ ss.length) (hu : (u.toList == typ.toList) = false) (h : p ≤ fst ss typ) (hf : fst ss typ < ss.length) : ptrAt (q2 B p X) (ins ss p u) typ = .pointer (some ⟨B + 1 + fst ss typ, 0, none⟩) := by
  have e := fst_ins_ge ss p u typ hp hu h
  rw [ptr_some _ _ _ (by rw [e, ins_length ss p u hp]; omega), e]
  simp only [q2]
  rw [if_neg (by omega), if_neg (by omega), show B + (fst ss typ + 1) = B + 1 + fst ss typ from by omega]
theorem after_none (B p X : Nat) (ss : List ByteArray) (u typ : ByteArray) (hp : p ≤ ss.length) (hu : (u.toList == typ.toList) = false) (hf : ¬ fst ss typ < ss.length) : ptrAt (q2 B p X) (ins ss p u) typ = .pointer none := by
  have hle := fst_le ss typ
  have e := fst_ins_ge ss p u typ hp hu (by omega)
  exact ptr_none _ _ _ (by rw [e, ins_length ss p u hp]; omega)

set_option maxHeartbeats 1000000 in
theorem insert_any (a : Option Addr) (m cap : Nat) (ss : List ByteArray) (p : Nat) (u typ : ByteArray) (w : World) (hs : Strs w a m ss) (hp : p ≤ m) (hm : m ≤ 1048576) (hu : (u.size : Int) ≤ 1048576) (ht : (typ.size : Int) ≤ 1048576) :
    Calls Try.prog 4 #[.slice a m cap, .int .i64 p, .string u, .string typ] w fun e w' => e = .returned (.bool true) ∧ Below w.heap.size w w' := by
  have hmk := run_make_row' (P := Try.prog) 25 26 (.pointer none) 8 Try.underlying25 Try.info26 rfl .i64 .i64 m (by omega) (by omega)
  have hmk2 := run_make_row' (P := Try.prog) 25 26 (.pointer none) 8 Try.underlying25 Try.info26 rfl .i64 .i64 (m + 1) (by omega) (by omega)
  rw [show ((m + 1 : Nat) : Int) = (m : Int) + 1 from by omega] at hmk2
  go_enter Try.func4, Try.ntmps4
  go_wp2_with fail
  refine (zz9 a m cap ss p u typ _ hs).mono ?_
  rintro e w ⟨(rfl | ⟨rfl, _⟩), rfl⟩
  · go_wp2
    go_ret
    exact ⟨rfl, Below.refl _ _⟩
  go_wp2_with fail
  refine (listBytes _ a m cap ss _ hs (by omega) (by omega)).mono ?_
  rintro e w ⟨r, hr0, hr1, rfl, rfl⟩
  by_cases hr : 1048576 < r
  · go_wp2
    go_ret
    exact ⟨rfl, Below.refl _ _⟩
  go_wp2_with fail
  go_loopw [12] (fun i wr => ∃ k : Nat, k ≤ m ∧ i = .int .i64 k ∧ Made w w.heap.size m k ss wr) (fun i _ => m - (intOf i).toNat)
  case atStart => exact ⟨0, Nat.zero_le _, rfl, Made.start w m ss⟩
  case round =>
    obtain ⟨k, hk, rfl, hM⟩ := hrel
    by_cases hlt : k < m
    · obtain ⟨b, off, rfl, hb, hc⟩ := hs.hat (by omega)
      have hck := hc k (by rw [hs.hlen]; exact hlt)
      rw [← hM.below.cell (p := ⟨b, off + k, none⟩) hb] at hck
      generalize hsk : ss[k]'(by rw [hs.hlen]; exact hlt) = s at *
      have HF : Hid ((∃ k' : Nat, k' ≤ m ∧ Value.int .i64 ((k : Int) + 1) = .int .i64 k' ∧ Made w w.heap.size m k' ss ((wr.setCell ⟨w.heap.size, k, none⟩ (.pointer (some ⟨wr.heap.size, 0, none⟩))).alloc (.cells (mcells s) 30))) ∧ m - (intOf (Value.int .i64 ((k : Int) + 1))).toNat < m - (intOf (Value.int .i64 (k : Int))).toNat) :=
        ⟨⟨k + 1, by omega, by go_num, hM.step hlt s (fun _ => hsk)⟩, by simp [intOf]; omega⟩
      have hrc := hM.row.cell hlt
      rw [if_neg (Nat.lt_irrefl k)] at hrc
      have hrf := hM.row.frozen k
      have hsz : w.heap.size < wr.heap.size := by have := hM.size; omega
      clear hc hs hsk hM hmk hmk2
      go_wp2_with fail
      exact HF.out
    · obtain rfl : m = k := by omega
      have h2 := hM.two u
      have hz := hM.size
      unfold mcells at h2
      clear hM hk hlt
      go_wp2_with fail
      clear hmk hmk2
      generalize (wr.alloc (Obj.cells #[Value.string u, .string ⟨#[]⟩, .string ⟨#[]⟩, .slice none 0 0, .slice none 0 0] 30)).alloc (Obj.cells (madeCells #[Value.pointer none] (m + 1)) 26) = w3 at *
      generalize hX : w.heap.size + 1 + m = X at *
      have HX : Hid (w.heap.size + 1 + m = X) := hX
      have hBX : w.heap.size < X := by omega
      clear hz hX
      go_loopw [15] (fun i wr => ∃ k : Nat, k ≤ p ∧ i = .int .i64 k ∧ Cop w3 (X + 1) (m + 1) (fun j => if j < k then .pointer (some ⟨w.heap.size + 1 + j, 0, none⟩) else .pointer none) wr) (fun i _ => p - (intOf i).toNat)
      case atStart => exact ⟨0, Nat.zero_le _, rfl, ⟨Below.refl _ _, rfl, h2.cop.row.congr fun j _ => by simp⟩⟩
      case round =>
        obtain ⟨k, hk, rfl, hC⟩ := hrel
        by_cases hlt : k < p
        · have hck := h2.ptr k (by omega)
          rw [← hC.below.cell (p := ⟨w.heap.size, k, none⟩) (show w.heap.size < X + 1 by omega)] at hck
          have HF : Hid ((∃ k' : Nat, k' ≤ p ∧ Value.int .i64 ((k : Int) + 1) = .int .i64 k' ∧ Cop w3 (X + 1) (m + 1) (fun j => if j < k' then .pointer (some ⟨w.heap.size + 1 + j, 0, none⟩) else .pointer none) (wr.setCell ⟨X + 1, k, none⟩ (.pointer (some ⟨w.heap.size + 1 + k, 0, none⟩)))) ∧ p - (intOf (Value.int .i64 ((k : Int) + 1))).toNat < p - (intOf (Value.int .i64 (k : Int))).toNat) := by
            refine ⟨⟨k + 1, by omega, by go_num, hC.step k _ _ fun j hj => ?_⟩, by simp [intOf]; omega⟩
            by_cases e : j = k
            · subst e; simp
            · by_cases e2 : j < k
              · simp [e, e2, show j < k + 1 from by omega]
              · simp [e, e2, show ¬ j < k + 1 from by omega]
          have hrc := hC.row.cell (i := k) (by omega)
          rw [if_neg (Nat.lt_irrefl k)] at hrc
          have hrf := hC.row.frozen k
          have i1 : (k : Int) < (m : Int) := by omega
          have i2 : (k : Int) < (m : Int) + 1 := by omega
          clear hs h2 hC
          go_wp2_with fail
          exact HF.out
        · obtain rfl : p = k := by omega
          have hrc := hC.row.cell (i := p) (by omega)
          rw [if_neg (Nat.lt_irrefl p)] at hrc
          have hrf := hC.row.frozen p
          have i2 : (p : Int) < (m : Int) + 1 := by omega
          have hC' := hC.step p (.pointer (some ⟨X, 0, none⟩)) (fun j => if j < p then .pointer (some ⟨w.heap.size + 1 + j, 0, none⟩) else if j = p then .pointer (some ⟨X, 0, none⟩) else if j < p + 1 then .pointer (some ⟨w.heap.size + j, 0, none⟩) else .pointer none) (fun j hj => by
            by_cases e : j = p
            · subst e; simp
            · by_cases e2 : j < p
              · simp [e, e2]
              · simp [e, e2, show ¬ j < p + 1 from by omega])
          clear hC hk hlt
          go_wp2_with fail
          generalize wr.setCell ⟨X + 1, p, none⟩ (.pointer (some ⟨X, 0, none⟩)) = w4 at *
          clear hrc hrf i2
          go_loopw [16] (fun i wr => ∃ k : Nat, p ≤ k ∧ k ≤ m ∧ i = .int .i64 k ∧ Cop w3 (X + 1) (m + 1) (fun j => if j < p then .pointer (some ⟨w.heap.size + 1 + j, 0, none⟩) else if j = p then .pointer (some ⟨X, 0, none⟩) else if j < k + 1 then .pointer (some ⟨w.heap.size + j, 0, none⟩) else .pointer none) wr) (fun i _ => m - (intOf i).toNat)
          case atStart => exact ⟨p, Nat.le_refl _, hp, rfl, hC'⟩
          case round =>
            obtain ⟨k, hpk, hk, rfl, hC⟩ := hrel
            clear hC'
            by_cases hlt : k < m
            · have hck := h2.ptr k hlt
              rw [← hC.below.cell (p := ⟨w.heap.size, k, none⟩) (show w.heap.size < X + 1 by omega)] at hck
              have HF : Hid ((∃ k' : Nat, p ≤ k' ∧ k' ≤ m ∧ Value.int .i64 ((k : Int) + 1) = .int .i64 k' ∧ Cop w3 (X + 1) (m + 1) (fun j => if j < p then .pointer (some ⟨w.heap.size + 1 + j, 0, none⟩) else if j = p then .pointer (some ⟨X, 0, none⟩) else if j < k' + 1 then .pointer (some ⟨w.heap.size + j, 0, none⟩) else .pointer none) (wr.setCell ⟨X + 1, k + 1, none⟩ (.pointer (some ⟨w.heap.size + 1 + k, 0, none⟩)))) ∧ m - (intOf (Value.int .i64 ((k : Int) + 1))).toNat < m - (intOf (Value.int .i64 (k : Int))).toNat) := by
                refine ⟨⟨k + 1, by omega, by omega, by go_num, hC.step (k + 1) _ _ fun j hj => ?_⟩, by simp [intOf]; omega⟩
                by_cases e : j = k + 1
                · subst e
                  rw [if_pos rfl, if_neg (by omega), if_neg (by omega), if_pos (by omega), show w.heap.size + (k + 1) = w.heap.size + 1 + k from by omega]
                · rw [if_neg e]
                  by_cases e2 : j < p
                  · rw [if_pos e2, if_pos e2]
                  · by_cases e3 : j = p
                    · rw [if_neg e2, if_pos e3, if_neg e2, if_pos e3]
                    · by_cases e4 : j < k + 1
                      · rw [if_neg e2, if_neg e3, if_pos e4, if_neg e2, if_neg e3, if_pos (by omega)]
                      · rw [if_neg e2, if_neg e3, if_neg e4, if_neg e2, if_neg e3, if_neg (by omega)]
              have hrc := hC.row.cell (i := k + 1) (by omega)
              rw [if_neg (by omega), if_neg (by omega), if_neg (by omega)] at hrc
              have hrf := hC.row.frozen (k + 1)
              have i1 : (k : Int) < (m : Int) := by omega
              have i2 : (k : Int) + 1 < (m : Int) + 1 := by omega
              have i3 : (0 : Int) ≤ (k : Int) + 1 := by omega
              clear hs h2 hC
              go_wp2_with fail
              exact HF.out
            · obtain rfl : m = k := by omega
              have hF := h2.fin hs.hlen hm hp hC
              have hl := hs.hlen
              clear hC h2 HX hBX hlt hk
              go_wp2_with fail
              refine (firstMedia _ (some ⟨w.heap.size, 0, none⟩) m m (fun j => w.heap.size + 1 + j) ss typ _ (hF.med1.alloc _) hl (by simp [go_sem])).mono ?_
              rintro e w5 ⟨rfl, hw5⟩
              have hF2 := hF.med2.alloc (Obj.cells #[Value.slice none 0 0, .slice (some ⟨w.heap.size, 0, none⟩) m m] 33)
              have hbl := hF.below.alloc hF.below.size (Obj.cells #[Value.slice none 0 0, .slice (some ⟨w.heap.size, 0, none⟩) m m] 33)
              have hP5 : ∀ i, i < m → w5.cell? ⟨w.heap.size, i, none⟩ = some (.pointer (some ⟨w.heap.size + 1 + i, 0, none⟩)) := fun i hi => by
                have hq := hF.ptr i hi
                rw [hw5]
                exact alloc_cell hq _
              have hK5 : ∀ j, j < m → ∃ c t, w5.heap[w.heap.size + 1 + j]? = some (.cells c t (0, 0)) := fun j hj => by
                obtain ⟨c, t, hct⟩ := hF.blk j hj
                rw [hw5]
                exact ⟨c, t, alloc_block hct _⟩
              rw [← hw5] at hF2 hbl
              clear hw5 hF
              go_wp2_with fail
              refine (firstMedia _ (some ⟨X + 1, 0, none⟩) (m + 1) (m + 1) (q2 w.heap.size p X) (ins ss p u) typ _ (hF2.alloc _) (by rw [ins_length ss p u (by omega), hl]) (by simp [go_sem])).mono ?_
              rintro e w6 ⟨rfl, hw6⟩
              have hbel := hbl.alloc hbl.size (Obj.cells #[Value.slice none 0 0, .slice (some ⟨X + 1, 0, none⟩) (m + 1) (m + 1)] 33)
              have hP : ∀ i, i < m → w6.cell? ⟨w.heap.size, i, none⟩ = some (.pointer (some ⟨w.heap.size + 1 + i, 0, none⟩)) := fun i hi => by
                rw [hw6]
                exact alloc_cell (hP5 i hi) _
              have hK : ∀ j, j < m → ∃ c t, w6.heap[w.heap.size + 1 + j]? = some (.cells c t (0, 0)) := fun j hj => by
                obtain ⟨c, t, hct⟩ := hK5 j hj
                rw [hw6]
                exact ⟨c, t, alloc_block hct _⟩
              rw [← hw6] at hbel
              clear hw6 hF2 hbl hP5 hK5
              have heq := eq_same
              have hle := fst_le ss typ
              by_cases hf : fst ss typ < ss.length
              · rw [ptr_some _ _ _ hf]
                have hit := fst_hit ss typ hf
                obtain ⟨b, off, rfl, hb, hc⟩ := hs.hat (by omega)
                have hcf := hc (fst ss typ) hf
                rw [← hbel.cell (p := ⟨b, off + fst ss typ, none⟩) hb] at hcf
                generalize ss[fst ss typ] = sf at *
                cases hu : (u.toList == typ.toList)
                · have hv : ptrAt (q2 w.heap.size p X) (ins ss p u) typ = .pointer (some ⟨w.heap.size + 1 + fst ss typ, 0, none⟩) := by
                    by_cases hpf : fst ss typ < p
                    · exact after_lt _ p X ss u typ (by omega) hpf
                    · exact after_ge _ p X ss u typ (by omega) hu (by omega) hf
                  rw [hv]
                  rw [hl] at hf
                  clear hv hs hc hle hl
                  generalize fst ss typ = f at *
                  go_wp2_with fail
                  go_loop [19, 20] (fun q i => ∃ k : Nat, k ≤ f ∧ i = .int .i64 k ∧ q = .int .i64 (-1)) (fun _ i => f + 1 - (intOf i).toNat)
                  case atStart => exact ⟨0, Nat.zero_le _, rfl, rfl⟩
                  case round =>
                    obtain ⟨k, hk, rfl, rfl⟩ := hrel
                    have hcp := hP k (by omega)
                    have j1 : (k : Int) < (m : Int) := by omega
                    by_cases hkf : k = f
                    · subst hkf
                      clear hP hK
                      go_wp2
                      go_ret
                      exact ⟨rfl, hbel⟩
                    · have hno := eq_other w6 (x := w.heap.size + 1 + k) (y := w.heap.size + 1 + f) (by omega) (hK k (by omega)) (hK f hf)
                      clear hP hK
                      have hlt : k < f := by omega
                      clear hkf
                      go_wp2
                      go_round
                      case rel => exact ⟨k + 1, by omega, by go_num, rfl⟩
                      case measure => simp [intOf]; omega
                · by_cases hpf : p ≤ fst ss typ
                  · have hv : ptrAt (q2 w.heap.size p X) (ins ss p u) typ = .pointer (some ⟨X, 0, none⟩) := after_new _ p X ss u typ (by omega) hu hpf
                    rw [hv]
                    rw [hl] at hf
                    clear hv hs hc hle hl
                    generalize fst ss typ = f at *
                    go_wp2_with fail
                    go_loop [19, 20] (fun q i => ∃ k : Nat, k ≤ f ∧ i = .int .i64 k ∧ q = .int .i64 (-1)) (fun _ i => f + 1 - (intOf i).toNat)
                    case atStart => exact ⟨0, Nat.zero_le _, rfl, rfl⟩
                    case round =>
                      obtain ⟨k, hk, rfl, rfl⟩ := hrel
                      have hcp := hP k (by omega)
                      have j1 : (k : Int) < (m : Int) := by omega
                      by_cases hkf : k = f
                      · subst hkf
                        clear hP hK
                        go_wp2
                        go_ret
                        exact ⟨rfl, hbel⟩
                      · have hno := eq_other w6 (x := w.heap.size + 1 + k) (y := w.heap.size + 1 + f) (by omega) (hK k (by omega)) (hK f hf)
                        clear hP hK
                        have hlt : k < f := by omega
                        clear hkf
                        go_wp2
                        go_round
                        case rel => exact ⟨k + 1, by omega, by go_num, rfl⟩
                        case measure => simp [intOf]; omega
                  · have hv : ptrAt (q2 w.heap.size p X) (ins ss p u) typ = .pointer (some ⟨w.heap.size + 1 + fst ss typ, 0, none⟩) := after_lt _ p X ss u typ (by omega) (by omega)
                    rw [hv]
                    rw [hl] at hf
                    clear hv hs hc hle hl
                    generalize fst ss typ = f at *
                    go_wp2_with fail
                    go_loop [19, 20] (fun q i => ∃ k : Nat, k ≤ f ∧ i = .int .i64 k ∧ q = .int .i64 (-1)) (fun _ i => f + 1 - (intOf i).toNat)
                    case atStart => exact ⟨0, Nat.zero_le _, rfl, rfl⟩
                    case round =>
                      obtain ⟨k, hk, rfl, rfl⟩ := hrel
                      have hcp := hP k (by omega)
                      have j1 : (k : Int) < (m : Int) := by omega
                      by_cases hkf : k = f
                      · subst hkf
                        clear hP hK
                        go_wp2
                        go_ret
                        exact ⟨rfl, hbel⟩
                      · have hno := eq_other w6 (x := w.heap.size + 1 + k) (y := w.heap.size + 1 + f) (by omega) (hK k (by omega)) (hK f hf)
                        clear hP hK
                        have hlt : k < f := by omega
                        clear hkf
                        go_wp2
                        go_round
                        case rel => exact ⟨k + 1, by omega, by go_num, rfl⟩
                        case measure => simp [intOf]; omega
              · rw [ptr_none _ _ _ hf]
                cases hu : (u.toList == typ.toList)
                · rw [after_none _ p X ss u typ (by omega) hu hf]
                  clear hP hK hf hs hl hle
                  go_wp2
                  go_ret
                  exact ⟨rfl, hbel⟩
                · rw [after_new _ p X ss u typ (by omega) hu (by omega)]
                  clear hP hK hf hs hl hle
                  go_wp2
                  go_ret
                  exact ⟨rfl, hbel⟩

set_option maxHeartbeats 1000000 in
set_option maxRecDepth 100000 in
/-- The law at every input. -/
theorem insert_all (a : Option Addr) (m cap : Nat) (ss : List ByteArray) (p : Int) (u typ : ByteArray) (w : World) (hs : Strs w a m ss) :
    Calls Try.prog 4 #[.slice a m cap, .int .i64 p, .string u, .string typ] w fun e w' => e = .returned (.bool true) ∧ Below w.heap.size w w' := by
  by_cases hm : m ≤ 1048576
  · by_cases ht : (1048576 : Int) < (typ.size : Int)
    · go_enter Try.func4, Try.ntmps4
      go_wp2_with fail
      refine (zz9 a m cap ss p u typ _ hs).mono ?_
      rintro e w ⟨(rfl | ⟨rfl, _⟩), rfl⟩
      · go_wp2
        go_ret
        exact ⟨rfl, Below.refl _ _⟩
      · go_wp2
        go_ret
        exact ⟨rfl, Below.refl _ _⟩
    · replace ht : (typ.size : Int) ≤ 1048576 := by omega
      by_cases hu : (1048576 : Int) < (u.size : Int)
      · go_enter Try.func4, Try.ntmps4
        go_wp2_with fail
        refine (zz9 a m cap ss p u typ _ hs).mono ?_
        rintro e w ⟨(rfl | ⟨rfl, _⟩), rfl⟩
        · go_wp2
          go_ret
          exact ⟨rfl, Below.refl _ _⟩
        · go_wp2
          go_ret
          exact ⟨rfl, Below.refl _ _⟩
      · replace hu : (u.size : Int) ≤ 1048576 := by omega
        by_cases hp : 0 ≤ p ∧ p ≤ (m : Int)
        · obtain ⟨n, rfl⟩ := Int.eq_ofNat_of_zero_le hp.1
          exact insert_any a m cap ss n u typ w hs (by omega) hm (by omega) (by omega)
        · by_cases hp0 : p < 0
          · clear hp
            go_enter Try.func4, Try.ntmps4
            go_wp2_with fail
            refine (zz9 a m cap ss p u typ _ hs).mono ?_
            rintro e w ⟨(rfl | ⟨rfl, _⟩), rfl⟩
            · go_wp2
              go_ret
              exact ⟨rfl, Below.refl _ _⟩
            go_wp2_with fail
            refine (listBytes _ a m cap ss _ hs (by omega) (by omega)).mono ?_
            rintro e w ⟨r, hr0, hr1, rfl, rfl⟩
            by_cases hr : 1048576 < r
            · go_wp2
              go_ret
              exact ⟨rfl, Below.refl _ _⟩
            · go_wp2
              go_ret
              exact ⟨rfl, Below.refl _ _⟩
          · have hp1 : (m : Int) < p := by omega
            replace hp0 : 0 ≤ p := by omega
            clear hp
            go_enter Try.func4, Try.ntmps4
            go_wp2_with fail
            refine (zz9 a m cap ss p u typ _ hs).mono ?_
            rintro e w ⟨(rfl | ⟨rfl, _⟩), rfl⟩
            · go_wp2
              go_ret
              exact ⟨rfl, Below.refl _ _⟩
            go_wp2_with fail
            refine (listBytes _ a m cap ss _ hs (by omega) (by omega)).mono ?_
            rintro e w ⟨r, hr0, hr1, rfl, rfl⟩
            by_cases hr : 1048576 < r
            · go_wp2
              go_ret
              exact ⟨rfl, Below.refl _ _⟩
            · go_wp2
              go_ret
              exact ⟨rfl, Below.refl _ _⟩
  · go_enter Try.func4, Try.ntmps4
    go_wp2_with fail
    refine (zz9 a m cap ss p u typ _ hs).mono ?_
    rintro e w ⟨(rfl | ⟨rfl, hx⟩), rfl⟩
    · go_wp2
      go_ret
      exact ⟨rfl, Below.refl _ _⟩
    · exact absurd hx hm
end Go.Proofs.Qxb6632266a
