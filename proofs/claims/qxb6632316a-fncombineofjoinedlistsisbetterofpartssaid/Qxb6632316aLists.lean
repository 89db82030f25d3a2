/-
  THE CONTRACTS of inRange (11), eqInts (12), joinedExpect (13), seat b6632316a.
-/
import Derived.Test.Qxb6632316aStaged
import Derived.Test.Qxb6632316aJoin
namespace Go.Proofs.Qxb6632316a
open Go.RowKit
set_option linter.unusedVariables false

theorem below_drewN {B : Nat} {a w : World} (h : Below B a w) (n : Nat) : Below B a (w.drewN n) := h.trans ⟨rfl, rfl, rfl, Nat.le_refl _, fun _ _ => rfl⟩

theorem Win.later {w w' : World} {v : Value} {ns : List Nat} (h : Win w v ns) (hb : Below w.heap.size w w') : Win w' v ns := by
  obtain ⟨a, cap, rfl, h2⟩ := h.form
  refine ⟨a, cap, rfl, fun h0 => ?_⟩
  obtain ⟨g, rfl, hc⟩ := h2 h0
  have hg : g < w.heap.size := by
    rcases Nat.lt_or_ge g w.heap.size with h | h
    · exact h
    · have := hc 0 h0
      simp [World.cell?, Array.getElem?_eq_none h] at this
  exact ⟨g, rfl, fun i hi => by rw [hb.cell (p := ⟨g, i, none⟩) hg]; exact hc i hi⟩

set_option maxHeartbeats 1000000 in
theorem inRange (v : Value) (ns : List Nat) (n : Nat) (w : World) (hw : Win w v ns) (hl : ns.length ≤ 4194304) (hn : ∀ i (h : i < ns.length), ns[i] < n) (hs : ∀ i (h : i + 1 < ns.length), ns[i] < ns[i + 1]) :
    Calls Try.prog 11 #[v, .int .i64 (n : Int)] w fun e w' => e = .returned (.bool true) ∧ ∃ q, w' = w.drewN q := by
  obtain ⟨a, cap, rfl, hf⟩ := hw.form
  go_enter Try.func11, Try.ntmps11
  go_wp2_with fail
  go_loopw [5] (fun i wr => ∃ k : Nat, k ≤ ns.length ∧ i = .int .i64 k ∧ ∃ q, wr = w.drewN q) (fun i _ => ns.length - (intOf i).toNat)
  case atStart => exact ⟨0, Nat.zero_le _, rfl, 0, rfl⟩
  case round =>
    obtain ⟨k, hk, rfl, q, hwr⟩ := hrel
    have HW : Hid (wr = w.drewN q) := hwr
    by_cases hlt : k < ns.length
    · obtain ⟨g, rfl, hc0⟩ := hf (by omega)
      have hc : ∀ i (h : i < ns.length), wr.cell? ⟨g, i, none⟩ = some (.int .i64 (ns[i] : Int)) := fun i h => by rw [hwr]; simpa using hc0 i h
      have hck := hc k hlt
      clear hc0 hwr
      have h1 := hn k hlt
      have i1 : (k : Int) < (ns.length : Int) := by omega
      by_cases hk0 : k = 0
      · subst hk0
        generalize ns[0] = z at *
        have b1 : (z : Int) < (n : Int) := by omega
        have i2 : (0 : Int) < (ns.length : Int) := by omega
        have i3 : ns.length ≠ 0 := by omega
        clear hc hf hn hs hw
        go_wp2_with fail
        go_quiet (fail)
        go_wp2
        go_roundw
        case rel => exact ⟨1, by omega, by go_num, _, by rw [HW.out, World.drewN_drewN]⟩
        case measure => simp [intOf]; omega
      · obtain ⟨j, rfl⟩ : ∃ j, k = j + 1 := ⟨k - 1, by omega⟩
        have hcj := hc j (by omega)
        have h2 := hs j hlt
        generalize ns[j + 1] = z at *
        generalize ns[j]'(by omega) = y at *
        have b1 : (z : Int) < (n : Int) := by omega
        have b2 : (y : Int) < (z : Int) := by omega
        have i2 : (j : Int) < (ns.length : Int) := by omega
        have hd : (0 : Int) < ((j + 1 : Nat) : Int) := by omega
        clear hc hf hn hs hw hk0
        go_wp2_with fail
        go_quiet (fail)
        go_wp2
        go_roundw
        case rel => exact ⟨j + 1 + 1, by omega, by go_num, _, by rw [HW.out, World.drewN_drewN]⟩
        case measure => simp [intOf]; omega
    · clear hf hn hs hw hwr
      go_wp2
      go_ret
      exact ⟨rfl, _, HW.out⟩

set_option maxHeartbeats 1000000 in
theorem eqInts (v v' : Value) (ns : List Nat) (w : World) (hw : Win w v ns) (hw' : Win w v' ns) (hl : ns.length ≤ 4194304) :
    Calls Try.prog 12 #[v, v'] w fun e w' => e = .returned (.bool true) ∧ ∃ q, w' = w.drewN q := by
  obtain ⟨a, cap, rfl, hf⟩ := hw.form
  obtain ⟨a', cap', rfl, hf'⟩ := hw'.form
  clear hw hw'
  have hne : (((ns.length : Int)) != ((ns.length : Int))) = false := by simp
  go_enter Try.func12, Try.ntmps12
  go_wp2_with fail
  go_loopw [5] (fun i wr => ∃ k : Nat, k ≤ ns.length ∧ i = .int .i64 k ∧ ∃ q, wr = w.drewN q) (fun i _ => ns.length - (intOf i).toNat)
  case atStart => exact ⟨0, Nat.zero_le _, rfl, 0, rfl⟩
  case round =>
    obtain ⟨k, hk, rfl, q, hwr⟩ := hrel
    have HW : Hid (wr = w.drewN q) := hwr
    by_cases hlt : k < ns.length
    · obtain ⟨g, rfl, hc⟩ := hf (by omega)
      obtain ⟨g', rfl, hc'⟩ := hf' (by omega)
      have hck : wr.cell? ⟨g, k, none⟩ = some (.int .i64 (ns[k] : Int)) := by rw [hwr]; simpa using hc k hlt
      have hck' : wr.cell? ⟨g', k, none⟩ = some (.int .i64 (ns[k] : Int)) := by rw [hwr]; simpa using hc' k hlt
      have i1 : (k : Int) < (ns.length : Int) := by omega
      generalize ns[k] = z at *
      have hz : (((z : Int)) != ((z : Int))) = false := by simp
      clear hc hc' hf hf' hwr
      go_wp2_with fail
      go_quiet (fail)
      go_wp2
      go_roundw
      case rel => exact ⟨k + 1, by omega, by go_num, _, by rw [HW.out, World.drewN_drewN]⟩
      case measure => simp [intOf]; omega
    · clear hf hf' hwr
      go_wp2
      go_ret
      exact ⟨rfl, _, HW.out⟩

/-! ### joinedExpect -/
/-- A row of ints that the call owns. -/
structure Out (w : World) (v : Value) (ns : List Nat) (wr : World) : Prop where
  below : Below w.heap.size w wr
  own : wr.ownsRow w.heap.size 3 1 v ns.length (iv ns)

/-- 'make([]int, 0, c)'. -/
theorem make28 (c : Nat) (hc : c ≤ 4194304) (W : World) : (Instr.makeSlice 28 (.int .i64 0) (.int .i64 (c : Int))).run Try.prog W = .ok (.slice (some ⟨W.heap.size, 0, none⟩) 0 c) (W.alloc (.cells (madeCells #[.int .i64 0] c) 3)) := by
  obtain ⟨i, hi, hz, hs, hb⟩ := info_parts Try.info3
  have h := run_make (P := Try.prog) W 28 3 i _ Try.underlying28 hi hz .i64 .i64 0 (c : Int) (by omega) (by omega) (by rw [hb]; omega) (by omega)
  rw [hs] at h
  simpa [Value.cells] using h

theorem Out.start (w : World) (c : Nat) (hc : c ≤ 4194304) : Out w (.slice (some ⟨w.heap.size, 0, none⟩) 0 c) [] (w.alloc (.cells (madeCells #[.int .i64 0] c) 3)) := by
  refine ⟨(Below.refl _ _).alloc (Nat.le_refl _) _, rfl, .inr ⟨w.heap.size, c, _, rfl, Nat.le_refl _, Go.Deep.blk_alloc_new _ _, Nat.zero_le _, by unfold maxLen; omega, by simp [size_madeCells], by simp [iv]⟩⟩

theorem Out.step {w : World} {v : Value} {ns : List Nat} {wr : World} (h : Out w v ns wr) (z : Nat) {g cap : Nat} {w' : World} (hb : Below w.heap.size wr w') (hown : w'.ownsRow w.heap.size 3 1 (.slice (some ⟨g, 0, none⟩) (ns.length + 1) cap) (ns.length + 1) (iv ns ++ [.int .i64 (z : Int)])) : Out w (.slice (some ⟨g, 0, none⟩) (ns.length + 1) cap) (ns ++ [z]) w' := by
  refine ⟨h.below.trans hb, ?_⟩
  have e1 : (ns ++ [z]).length = ns.length + 1 := by simp
  have e2 : iv (ns ++ [z]) = iv ns ++ [.int .i64 (z : Int)] := by simp [iv]
  rw [e1, e2]
  exact hown

theorem cell_lt {w : World} {g i : Nat} {v : Value} (h : w.cell? ⟨g, i, none⟩ = some v) : g < w.heap.size := by
  rcases Nat.lt_or_ge g w.heap.size with h' | h'
  · exact h'
  · simp [World.cell?, Array.getElem?_eq_none h'] at h

set_option maxRecDepth 100000 in
set_option maxHeartbeats 2000000 in
theorem je1 (a : Option Addr) (na cap : Nat) (ax : Option Addr) (capx : Nat) (b : Option Addr) (nb cap2 : Nat) (ay : Option Addr) (ny capy : Nat) (fy : Nat → Nat) (w : World)
    (hfy : 0 < ny → ∃ g, ay = some ⟨g, 0, none⟩ ∧ ∀ i, i < ny → w.cell? ⟨g, i, none⟩ = some (.int .i64 (fy i : Int))) (ha : na ≤ 1048576) (hly : ny ≤ 1048576) (hry : ∀ i, i < ny → fy i ≤ 1048576) :
    Calls Try.prog 13 #[.slice a na cap, .slice ax 0 capx, .slice b nb cap2, .slice ay ny capy] w fun e w' => ∃ v, e = .returned v ∧ Out w v ((List.range ny).map (fun i => fy i + na)) w' := by
  have hmk := make28 ny (by omega)
  have hO := Out.start w ny (by omega)
  go_enter Try.func13, Try.ntmps13
  go_wp2_with fail
  go_loopw [9, 10] (fun v i wr => ∃ k : Nat, k ≤ ny ∧ i = .int .i64 k ∧ Out w v ((List.range k).map (fun i => fy i + na)) wr) (fun _ i _ => ny - (intOf i).toNat)
  case atStart => exact ⟨0, Nat.zero_le _, rfl, by simpa using hO⟩
  case round =>
    obtain ⟨k, hk, rfl, hO1⟩ := hrel
    clear hO
    by_cases hlt : k < ny
    · obtain ⟨g, eg, hc⟩ := hfy (by omega)
      subst eg
      have hck := hc k hlt
      have hg : g < w.heap.size := cell_lt hck
      rw [← hO1.below.cell (p := ⟨g, k, none⟩) hg] at hck
      have hown := hO1.own
      have hbase := hO1.below.size
      have i1 : (k : Int) < (ny : Int) := by omega
      have hln : ((List.range k).map (fun i => fy i + na)).length ≤ 4194304 := by simp; omega
      have hz1 : (fy k : Int) ≤ 1048576 := by have := hry k hlt; omega
      have hnext : (List.range (k + 1)).map (fun i => fy i + na) = ((List.range k).map (fun i => fy i + na)) ++ [fy k + na] := by simp [List.range_succ]
      have HN : Hid ((List.range (k + 1)).map (fun i => fy i + na) = ((List.range k).map (fun i => fy i + na)) ++ [fy k + na]) := hnext
      have HO : Hid (∀ (g cap : Nat) (w' : World), Below w.heap.size wr w' → w'.ownsRow w.heap.size 3 1 (.slice (some ⟨g, 0, none⟩) (((List.range k).map (fun i => fy i + na)).length + 1) cap) (((List.range k).map (fun i => fy i + na)).length + 1) (iv ((List.range k).map (fun i => fy i + na)) ++ [.int .i64 ((fy k + na : Nat) : Int)]) → Out w (.slice (some ⟨g, 0, none⟩) (((List.range k).map (fun i => fy i + na)).length + 1) cap) (((List.range k).map (fun i => fy i + na)) ++ [fy k + na]) w') := fun g cap w' h1 h2 => hO1.step _ h1 h2
      generalize hl : ((List.range k).map (fun i => fy i + na)) = pl at *
      clear hl hnext hc hO1 hfy hry hmk
      go_wp2_with (at_builtin; refine app_one wr (((fy k : Nat) : Int) + (na : Int)) (by rfl) _ _ (by rfl) w.heap.size _ pl.length (iv pl) (by rfl) (by rfl) hown hln hbase ?_; intro g' cap' w' hown' hbel')
      refine ⟨⟨k + 1, by omega, by go_num, ?_⟩, by simp [intOf]; omega⟩
      rw [HN.out]
      exact HO.out g' cap' w' hbel' (by simpa using hown')
    · obtain rfl : ny = k := by omega
      clear hlt hk
      clear hfy hry hmk
      go_wp2
      go_ret
      exact ⟨_, rfl, hO1⟩

set_option maxRecDepth 100000 in
set_option maxHeartbeats 2000000 in
theorem je2 (a : Option Addr) (na cap : Nat) (ax : Option Addr) (nx capx : Nat) (fx : Nat → Nat) (b : Option Addr) (nb cap2 : Nat) (ay : Option Addr) (capy : Nat) (w : World) (hn0 : 0 < nx)
    (hfx : 0 < nx → ∃ g, ax = some ⟨g, 0, none⟩ ∧ ∀ i, i < nx → w.cell? ⟨g, i, none⟩ = some (.int .i64 (fx i : Int))) (ha : na ≤ 1048576) (hlx : nx ≤ 1048576) (hrx : ∀ i, i < nx → fx i ≤ 1048576) :
    Calls Try.prog 13 #[.slice a na cap, .slice ax nx capx, .slice b nb cap2, .slice ay 0 capy] w fun e w' => ∃ v, e = .returned v ∧ Out w v ((List.range nx).map fx) w' := by
  have hmk := make28 nx (by omega)
  have hO := Out.start w nx (by omega)
  have hz : ((nx : Int) == 0) = false := by rw [beq_eq_false_iff_ne]; omega
  go_enter Try.func13, Try.ntmps13
  go_wp2_with fail
  go_loopw [9, 11] (fun v i wr => ∃ k : Nat, k ≤ nx ∧ i = .int .i64 k ∧ Out w v ((List.range k).map fx) wr) (fun _ i _ => nx - (intOf i).toNat)
  case atStart => exact ⟨0, Nat.zero_le _, rfl, by simpa using hO⟩
  case round =>
    obtain ⟨k, hk, rfl, hO1⟩ := hrel
    clear hO
    by_cases hlt : k < nx
    · obtain ⟨g, eg, hc⟩ := hfx (by omega)
      subst eg
      have hck := hc k hlt
      have hg : g < w.heap.size := cell_lt hck
      rw [← hO1.below.cell (p := ⟨g, k, none⟩) hg] at hck
      have hown := hO1.own
      have hbase := hO1.below.size
      have i1 : (k : Int) < (nx : Int) := by omega
      have hln : ((List.range k).map fx).length ≤ 4194304 := by simp; omega
      have hz1 : (fx k : Int) ≤ 1048576 := by have := hrx k hlt; omega
      have hnext : (List.range (k + 1)).map fx = ((List.range k).map fx) ++ [fx k] := by simp [List.range_succ]
      have HN : Hid ((List.range (k + 1)).map fx = ((List.range k).map fx) ++ [fx k]) := hnext
      have HO : Hid (∀ (g cap : Nat) (w' : World), Below w.heap.size wr w' → w'.ownsRow w.heap.size 3 1 (.slice (some ⟨g, 0, none⟩) (((List.range k).map fx).length + 1) cap) (((List.range k).map fx).length + 1) (iv ((List.range k).map fx) ++ [.int .i64 ((fx k : Nat) : Int)]) → Out w (.slice (some ⟨g, 0, none⟩) (((List.range k).map fx).length + 1) cap) (((List.range k).map fx) ++ [fx k]) w') := fun g cap w' h1 h2 => hO1.step _ h1 h2
      generalize hl : ((List.range k).map fx) = pl at *
      clear hl hnext hc hO1 hfx hrx hmk
      go_wp2_with (at_builtin; refine app_one wr (((fx k : Nat) : Int)) (by rfl) _ _ (by rfl) w.heap.size _ pl.length (iv pl) (by rfl) (by rfl) hown hln hbase ?_; intro g' cap' w' hown' hbel')
      refine ⟨⟨k + 1, by omega, by go_num, ?_⟩, by simp [intOf]; omega⟩
      rw [HN.out]
      exact HO.out g' cap' w' hbel' (by simpa using hown')
    · obtain rfl : nx = k := by omega
      clear hlt hk
      clear hfx hrx hmk
      go_wp2
      go_ret
      exact ⟨_, rfl, hO1⟩

set_option maxRecDepth 100000 in
set_option maxHeartbeats 4000000 in
theorem je3lt (bx ox na cap gx nx capx : Nat) (fx : Nat → Nat) (bY oy nb cap2 gy ny capy : Nat) (fy : Nat → Nat) (x0 y0 : Rec) (w : World) (hn0 : 0 < nx) (hm0 : 0 < ny)
    (hcx : ∀ i, i < nx → w.cell? ⟨gx, i, none⟩ = some (.int .i64 (fx i : Int))) (hcy : ∀ i, i < ny → w.cell? ⟨gy, i, none⟩ = some (.int .i64 (fy i : Int))) (ha : na ≤ 1048576) (hb : nb ≤ 1048576) (hlx : nx ≤ 1048576) (hly : ny ≤ 1048576)
    (hrx : ∀ i, i < nx → fx i ≤ 1048576) (hry : ∀ i, i < ny → fy i ≤ 1048576) (p q : Nat) (ep : fx 0 = p) (eq : fy 0 = q) (hp : p < na) (hq : q < nb)
    (x1 : w.cell? ⟨bx, ox + p * 3, none⟩ = some (.string x0.act)) (x2 : w.cell? ⟨bx, ox + p * 3 + 1, none⟩ = some (.int .i64 x0.pri)) (x3 : w.cell? ⟨bx, ox + p * 3 + 2, none⟩ = some (.string x0.id))
    (y1 : w.cell? ⟨bY, oy + q * 3, none⟩ = some (.string y0.act)) (y2 : w.cell? ⟨bY, oy + q * 3 + 1, none⟩ = some (.int .i64 y0.pri)) (y3 : w.cell? ⟨bY, oy + q * 3 + 2, none⟩ = some (.string y0.id)) (hrk : rnk x0 y0 = -1) :
    Calls Try.prog 13 #[.slice (some ⟨bx, ox, none⟩) na cap, .slice (some ⟨gx, 0, none⟩) nx capx, .slice (some ⟨bY, oy, none⟩) nb cap2, .slice (some ⟨gy, 0, none⟩) ny capy] w fun e w' => ∃ v, e = .returned v ∧ Out w v ((List.range nx).map fx) w' := by
  have hmk := make28 (nx + ny) (by omega)
  rw [show ((nx + ny : Nat) : Int) = (nx : Int) + (ny : Int) from by omega] at hmk
  have hO := Out.start w (nx + ny) (by omega)
  have hz : ((nx : Int) == 0) = false := by rw [beq_eq_false_iff_ne]; omega
  have hz2 : ((ny : Int) == 0) = false := by rw [beq_eq_false_iff_ne]; omega
  have kx := hcx 0 hn0
  have ky := hcy 0 hm0
  rw [ep] at kx
  rw [eq] at ky
  have lgx := cell_lt kx
  have lgy := cell_lt ky
  have lbx := cell_lt x1
  have lby := cell_lt y1
  have lgx1 : gx < w.heap.size + 1 := by omega
  have lgy1 : gy < w.heap.size + 1 := by omega
  have lbx1 : bx < w.heap.size + 1 := by omega
  have lby1 : bY < w.heap.size + 1 := by omega
  have lgx2 : gx < w.heap.size + 1 + 1 := by omega
  have lgy2 : gy < w.heap.size + 1 + 1 := by omega
  have lbx2 : bx < w.heap.size + 1 + 1 := by omega
  have lby2 : bY < w.heap.size + 1 + 1 := by omega
  have u1 : (0 : Int) < (nx : Int) := by omega
  have u2 : (0 : Int) < (ny : Int) := by omega
  have u3 : nx ≠ 0 := by omega
  have u4 : ny ≠ 0 := by omega
  have v1 : (p : Int) < (na : Int) := by omega
  have v2 : (q : Int) < (nb : Int) := by omega
  have hfx : 0 < nx → ∃ g, (some ⟨gx, 0, none⟩ : Option Addr) = some ⟨g, 0, none⟩ ∧ ∀ i, i < nx → w.cell? ⟨g, i, none⟩ = some (.int .i64 (fx i : Int)) := fun _ => ⟨gx, rfl, hcx⟩
  have hfy : 0 < ny → ∃ g, (some ⟨gy, 0, none⟩ : Option Addr) = some ⟨g, 0, none⟩ ∧ ∀ i, i < ny → w.cell? ⟨g, i, none⟩ = some (.int .i64 (fy i : Int)) := fun _ => ⟨gy, rfl, hcy⟩
  have HX : Hid (∀ i, i < nx → w.cell? ⟨gx, i, none⟩ = some (.int .i64 (fx i : Int))) := hcx
  have HY : Hid (∀ i, i < ny → w.cell? ⟨gy, i, none⟩ = some (.int .i64 (fy i : Int))) := hcy
  have HRX : Hid (∀ i, i < nx → fx i ≤ 1048576) := hrx
  have HRY : Hid (∀ i, i < ny → fy i ≤ 1048576) := hry
  clear ep eq hp hq hcx hcy hfx hfy hrx hry
  go_enter Try.func13, Try.ntmps13
  go_wp2_with fail
  go_region_held3 (fun w' => w'.cell? ⟨gx, 0, none⟩ = some (.int .i64 (p : Int)) ∧ w'.cell? ⟨gy, 0, none⟩ = some (.int .i64 (q : Int)) ∧ w'.cell? ⟨bx, ox + p * 3, none⟩ = some (.string x0.act) ∧ w'.cell? ⟨bx, ox + p * 3 + 1, none⟩ = some (.int .i64 x0.pri) ∧ w'.cell? ⟨bx, ox + p * 3 + 2, none⟩ = some (.string x0.id) ∧ w'.cell? ⟨bY, oy + q * 3, none⟩ = some (.string y0.act) ∧ w'.cell? ⟨bY, oy + q * 3 + 1, none⟩ = some (.int .i64 y0.pri) ∧ w'.cell? ⟨bY, oy + q * 3 + 2, none⟩ = some (.string y0.id)) (simp [go_sem, World.cell?_alloc_past, *])
    ((go_at_call 15; refine (rankCmp x0 y0 _).mono ?_; rintro e w' ⟨rfl, rfl⟩))
  have h5 : Below (w.alloc (Obj.cells (madeCells #[Value.int .i64 0] (nx + ny)) 3)).heap.size (w.alloc (Obj.cells (madeCells #[Value.int .i64 0] (nx + ny)) 3)) (((w.alloc (Obj.cells (madeCells #[Value.int .i64 0] (nx + ny)) 3)).alloc (Obj.cells #[.string x0.act, .int .i64 x0.pri, .string x0.id] 31)).alloc (Obj.cells #[.string y0.act, .int .i64 y0.pri, .string y0.id] 31)).drew := (((Below.refl _ _).alloc (Nat.le_refl _) _).alloc (by simp) _).drew
  replace hO : Out w (.slice (some ⟨w.heap.size, 0, none⟩) 0 (nx + ny)) [] (((w.alloc (Obj.cells (madeCells #[Value.int .i64 0] (nx + ny)) 3)).alloc (Obj.cells #[.string x0.act, .int .i64 x0.pri, .string x0.id] 31)).alloc (Obj.cells #[.string y0.act, .int .i64 y0.pri, .string y0.id] 31)).drew := ⟨hO.below.trans (h5.mono hO.below.size), own_later hO.own h5⟩
  generalize (((w.alloc (Obj.cells (madeCells #[Value.int .i64 0] (nx + ny)) 3)).alloc (Obj.cells #[.string x0.act, .int .i64 x0.pri, .string x0.id] 31)).alloc (Obj.cells #[.string y0.act, .int .i64 y0.pri, .string y0.id] 31)).drew = W5 at *
  have hfx : 0 < nx → ∃ g, (some ⟨gx, 0, none⟩ : Option Addr) = some ⟨g, 0, none⟩ ∧ ∀ i, i < nx → w.cell? ⟨g, i, none⟩ = some (.int .i64 (fx i : Int)) := fun _ => ⟨gx, rfl, HX.out⟩
  have hfy : 0 < ny → ∃ g, (some ⟨gy, 0, none⟩ : Option Addr) = some ⟨g, 0, none⟩ ∧ ∀ i, i < ny → w.cell? ⟨g, i, none⟩ = some (.int .i64 (fy i : Int)) := fun _ => ⟨gy, rfl, HY.out⟩
  have hrx := HRX.out
  have hry := HRY.out
  clear h5 hmk x1 x2 x3 y1 y2 y3 kx ky lgx lgy lbx lby lgx1 lgy1 lbx1 lby1 lgx2 lgy2 lbx2 lby2 HX HY HRX HRY hrk v1 v2
  go_wp2_with fail
  go_loopw [9, 13] (fun v i wr => ∃ k : Nat, k ≤ nx ∧ i = .int .i64 k ∧ Out w v ((List.range k).map fx) wr) (fun _ i _ => nx - (intOf i).toNat)
  case atStart => exact ⟨0, Nat.zero_le _, rfl, by simpa using hO⟩
  case round =>
    obtain ⟨k, hk, rfl, hO1⟩ := hrel
    clear hO
    by_cases hlt : k < nx
    · obtain ⟨g, eg, hc⟩ := hfx (by omega)
      obtain rfl : g = gx := by simpa using eg.symm
      clear eg
      have hck := hc k hlt
      have hg : g < w.heap.size := cell_lt hck
      rw [← hO1.below.cell (p := ⟨g, k, none⟩) hg] at hck
      have hown := hO1.own
      have hbase := hO1.below.size
      have i1 : (k : Int) < (nx : Int) := by omega
      have hln : ((List.range k).map fx).length ≤ 4194304 := by simp; omega
      have hz1 : (fx k : Int) ≤ 1048576 := by have := hrx k hlt; omega
      have hnext : (List.range (k + 1)).map fx = ((List.range k).map fx) ++ [fx k] := by simp [List.range_succ]
      have HN : Hid ((List.range (k + 1)).map fx = ((List.range k).map fx) ++ [fx k]) := hnext
      have HO : Hid (∀ (g cap : Nat) (w' : World), Below w.heap.size wr w' → w'.ownsRow w.heap.size 3 1 (.slice (some ⟨g, 0, none⟩) (((List.range k).map fx).length + 1) cap) (((List.range k).map fx).length + 1) (iv ((List.range k).map fx) ++ [.int .i64 ((fx k : Nat) : Int)]) → Out w (.slice (some ⟨g, 0, none⟩) (((List.range k).map fx).length + 1) cap) (((List.range k).map fx) ++ [fx k]) w') := fun g cap w' h1 h2 => hO1.step _ h1 h2
      generalize hl : ((List.range k).map fx) = pl at *
      clear hl hnext hc hO1 hfx hfy hrx hry
      go_wp2_with (at_builtin; refine app_one wr (((fx k : Nat) : Int)) (by rfl) _ _ (by rfl) w.heap.size _ pl.length (iv pl) (by rfl) (by rfl) hown hln hbase ?_; intro g' cap' w' hown' hbel')
      refine ⟨⟨k + 1, by omega, by go_num, ?_⟩, by simp [intOf]; omega⟩
      rw [HN.out]
      exact HO.out g' cap' w' hbel' (by simpa using hown')
    · obtain rfl : nx = k := by omega
      clear hlt hk
      clear hfx hfy hrx hry
      go_wp2
      go_ret
      exact ⟨_, rfl, hO1⟩

set_option maxRecDepth 100000 in
set_option maxHeartbeats 4000000 in
theorem je3gt (bx ox na cap gx nx capx : Nat) (fx : Nat → Nat) (bY oy nb cap2 gy ny capy : Nat) (fy : Nat → Nat) (x0 y0 : Rec) (w : World) (hn0 : 0 < nx) (hm0 : 0 < ny)
    (hcx : ∀ i, i < nx → w.cell? ⟨gx, i, none⟩ = some (.int .i64 (fx i : Int))) (hcy : ∀ i, i < ny → w.cell? ⟨gy, i, none⟩ = some (.int .i64 (fy i : Int))) (ha : na ≤ 1048576) (hb : nb ≤ 1048576) (hlx : nx ≤ 1048576) (hly : ny ≤ 1048576)
    (hrx : ∀ i, i < nx → fx i ≤ 1048576) (hry : ∀ i, i < ny → fy i ≤ 1048576) (p q : Nat) (ep : fx 0 = p) (eq : fy 0 = q) (hp : p < na) (hq : q < nb)
    (x1 : w.cell? ⟨bx, ox + p * 3, none⟩ = some (.string x0.act)) (x2 : w.cell? ⟨bx, ox + p * 3 + 1, none⟩ = some (.int .i64 x0.pri)) (x3 : w.cell? ⟨bx, ox + p * 3 + 2, none⟩ = some (.string x0.id))
    (y1 : w.cell? ⟨bY, oy + q * 3, none⟩ = some (.string y0.act)) (y2 : w.cell? ⟨bY, oy + q * 3 + 1, none⟩ = some (.int .i64 y0.pri)) (y3 : w.cell? ⟨bY, oy + q * 3 + 2, none⟩ = some (.string y0.id)) (hrk : rnk x0 y0 = 1) :
    Calls Try.prog 13 #[.slice (some ⟨bx, ox, none⟩) na cap, .slice (some ⟨gx, 0, none⟩) nx capx, .slice (some ⟨bY, oy, none⟩) nb cap2, .slice (some ⟨gy, 0, none⟩) ny capy] w fun e w' => ∃ v, e = .returned v ∧ Out w v ((List.range ny).map (fun i => fy i + na)) w' := by
  have hmk := make28 (nx + ny) (by omega)
  rw [show ((nx + ny : Nat) : Int) = (nx : Int) + (ny : Int) from by omega] at hmk
  have hO := Out.start w (nx + ny) (by omega)
  have hz : ((nx : Int) == 0) = false := by rw [beq_eq_false_iff_ne]; omega
  have hz2 : ((ny : Int) == 0) = false := by rw [beq_eq_false_iff_ne]; omega
  have kx := hcx 0 hn0
  have ky := hcy 0 hm0
  rw [ep] at kx
  rw [eq] at ky
  have lgx := cell_lt kx
  have lgy := cell_lt ky
  have lbx := cell_lt x1
  have lby := cell_lt y1
  have lgx1 : gx < w.heap.size + 1 := by omega
  have lgy1 : gy < w.heap.size + 1 := by omega
  have lbx1 : bx < w.heap.size + 1 := by omega
  have lby1 : bY < w.heap.size + 1 := by omega
  have lgx2 : gx < w.heap.size + 1 + 1 := by omega
  have lgy2 : gy < w.heap.size + 1 + 1 := by omega
  have lbx2 : bx < w.heap.size + 1 + 1 := by omega
  have lby2 : bY < w.heap.size + 1 + 1 := by omega
  have u1 : (0 : Int) < (nx : Int) := by omega
  have u2 : (0 : Int) < (ny : Int) := by omega
  have u3 : nx ≠ 0 := by omega
  have u4 : ny ≠ 0 := by omega
  have v1 : (p : Int) < (na : Int) := by omega
  have v2 : (q : Int) < (nb : Int) := by omega
  have hfx : 0 < nx → ∃ g, (some ⟨gx, 0, none⟩ : Option Addr) = some ⟨g, 0, none⟩ ∧ ∀ i, i < nx → w.cell? ⟨g, i, none⟩ = some (.int .i64 (fx i : Int)) := fun _ => ⟨gx, rfl, hcx⟩
  have hfy : 0 < ny → ∃ g, (some ⟨gy, 0, none⟩ : Option Addr) = some ⟨g, 0, none⟩ ∧ ∀ i, i < ny → w.cell? ⟨g, i, none⟩ = some (.int .i64 (fy i : Int)) := fun _ => ⟨gy, rfl, hcy⟩
  have HX : Hid (∀ i, i < nx → w.cell? ⟨gx, i, none⟩ = some (.int .i64 (fx i : Int))) := hcx
  have HY : Hid (∀ i, i < ny → w.cell? ⟨gy, i, none⟩ = some (.int .i64 (fy i : Int))) := hcy
  have HRX : Hid (∀ i, i < nx → fx i ≤ 1048576) := hrx
  have HRY : Hid (∀ i, i < ny → fy i ≤ 1048576) := hry
  clear ep eq hp hq hcx hcy hfx hfy hrx hry
  go_enter Try.func13, Try.ntmps13
  go_wp2_with fail
  go_region_held3 (fun w' => w'.cell? ⟨gx, 0, none⟩ = some (.int .i64 (p : Int)) ∧ w'.cell? ⟨gy, 0, none⟩ = some (.int .i64 (q : Int)) ∧ w'.cell? ⟨bx, ox + p * 3, none⟩ = some (.string x0.act) ∧ w'.cell? ⟨bx, ox + p * 3 + 1, none⟩ = some (.int .i64 x0.pri) ∧ w'.cell? ⟨bx, ox + p * 3 + 2, none⟩ = some (.string x0.id) ∧ w'.cell? ⟨bY, oy + q * 3, none⟩ = some (.string y0.act) ∧ w'.cell? ⟨bY, oy + q * 3 + 1, none⟩ = some (.int .i64 y0.pri) ∧ w'.cell? ⟨bY, oy + q * 3 + 2, none⟩ = some (.string y0.id)) (simp [go_sem, World.cell?_alloc_past, *])
    ((go_at_call 15; refine (rankCmp x0 y0 _).mono ?_; rintro e w' ⟨rfl, rfl⟩))
  have h5 : Below (w.alloc (Obj.cells (madeCells #[Value.int .i64 0] (nx + ny)) 3)).heap.size (w.alloc (Obj.cells (madeCells #[Value.int .i64 0] (nx + ny)) 3)) (((w.alloc (Obj.cells (madeCells #[Value.int .i64 0] (nx + ny)) 3)).alloc (Obj.cells #[.string x0.act, .int .i64 x0.pri, .string x0.id] 31)).alloc (Obj.cells #[.string y0.act, .int .i64 y0.pri, .string y0.id] 31)).drew := (((Below.refl _ _).alloc (Nat.le_refl _) _).alloc (by simp) _).drew
  replace hO : Out w (.slice (some ⟨w.heap.size, 0, none⟩) 0 (nx + ny)) [] (((w.alloc (Obj.cells (madeCells #[Value.int .i64 0] (nx + ny)) 3)).alloc (Obj.cells #[.string x0.act, .int .i64 x0.pri, .string x0.id] 31)).alloc (Obj.cells #[.string y0.act, .int .i64 y0.pri, .string y0.id] 31)).drew := ⟨hO.below.trans (h5.mono hO.below.size), own_later hO.own h5⟩
  generalize (((w.alloc (Obj.cells (madeCells #[Value.int .i64 0] (nx + ny)) 3)).alloc (Obj.cells #[.string x0.act, .int .i64 x0.pri, .string x0.id] 31)).alloc (Obj.cells #[.string y0.act, .int .i64 y0.pri, .string y0.id] 31)).drew = W5 at *
  have hfx : 0 < nx → ∃ g, (some ⟨gx, 0, none⟩ : Option Addr) = some ⟨g, 0, none⟩ ∧ ∀ i, i < nx → w.cell? ⟨g, i, none⟩ = some (.int .i64 (fx i : Int)) := fun _ => ⟨gx, rfl, HX.out⟩
  have hfy : 0 < ny → ∃ g, (some ⟨gy, 0, none⟩ : Option Addr) = some ⟨g, 0, none⟩ ∧ ∀ i, i < ny → w.cell? ⟨g, i, none⟩ = some (.int .i64 (fy i : Int)) := fun _ => ⟨gy, rfl, HY.out⟩
  have hrx := HRX.out
  have hry := HRY.out
  clear h5 hmk x1 x2 x3 y1 y2 y3 kx ky lgx lgy lbx lby lgx1 lgy1 lbx1 lby1 lgx2 lgy2 lbx2 lby2 HX HY HRX HRY hrk v1 v2
  go_wp2_with fail
  go_loopw [9, 14] (fun v i wr => ∃ k : Nat, k ≤ ny ∧ i = .int .i64 k ∧ Out w v ((List.range k).map (fun i => fy i + na)) wr) (fun _ i _ => ny - (intOf i).toNat)
  case atStart => exact ⟨0, Nat.zero_le _, rfl, by simpa using hO⟩
  case round =>
    obtain ⟨k, hk, rfl, hO1⟩ := hrel
    clear hO
    by_cases hlt : k < ny
    · obtain ⟨g, eg, hc⟩ := hfy (by omega)
      obtain rfl : g = gy := by simpa using eg.symm
      clear eg
      have hck := hc k hlt
      have hg : g < w.heap.size := cell_lt hck
      rw [← hO1.below.cell (p := ⟨g, k, none⟩) hg] at hck
      have hown := hO1.own
      have hbase := hO1.below.size
      have i1 : (k : Int) < (ny : Int) := by omega
      have hln : ((List.range k).map (fun i => fy i + na)).length ≤ 4194304 := by simp; omega
      have hz1 : (fy k : Int) ≤ 1048576 := by have := hry k hlt; omega
      have hnext : (List.range (k + 1)).map (fun i => fy i + na) = ((List.range k).map (fun i => fy i + na)) ++ [fy k + na] := by simp [List.range_succ]
      have HN : Hid ((List.range (k + 1)).map (fun i => fy i + na) = ((List.range k).map (fun i => fy i + na)) ++ [fy k + na]) := hnext
      have HO : Hid (∀ (g cap : Nat) (w' : World), Below w.heap.size wr w' → w'.ownsRow w.heap.size 3 1 (.slice (some ⟨g, 0, none⟩) (((List.range k).map (fun i => fy i + na)).length + 1) cap) (((List.range k).map (fun i => fy i + na)).length + 1) (iv ((List.range k).map (fun i => fy i + na)) ++ [.int .i64 ((fy k + na : Nat) : Int)]) → Out w (.slice (some ⟨g, 0, none⟩) (((List.range k).map (fun i => fy i + na)).length + 1) cap) (((List.range k).map (fun i => fy i + na)) ++ [fy k + na]) w') := fun g cap w' h1 h2 => hO1.step _ h1 h2
      generalize hl : ((List.range k).map (fun i => fy i + na)) = pl at *
      clear hl hnext hc hO1 hfx hfy hrx hry
      go_wp2_with (at_builtin; refine app_one wr (((fy k : Nat) : Int) + (na : Int)) (by rfl) _ _ (by rfl) w.heap.size _ pl.length (iv pl) (by rfl) (by rfl) hown hln hbase ?_; intro g' cap' w' hown' hbel')
      refine ⟨⟨k + 1, by omega, by go_num, ?_⟩, by simp [intOf]; omega⟩
      rw [HN.out]
      exact HO.out g' cap' w' hbel' (by simpa using hown')
    · obtain rfl : ny = k := by omega
      clear hlt hk
      clear hfx hfy hrx hry
      go_wp2
      go_ret
      exact ⟨_, rfl, hO1⟩

set_option maxRecDepth 100000 in
set_option maxHeartbeats 4000000 in
theorem je3eq (bx ox na cap gx nx capx : Nat) (fx : Nat → Nat) (bY oy nb cap2 gy ny capy : Nat) (fy : Nat → Nat) (x0 y0 : Rec) (w : World) (hn0 : 0 < nx) (hm0 : 0 < ny)
    (hcx : ∀ i, i < nx → w.cell? ⟨gx, i, none⟩ = some (.int .i64 (fx i : Int))) (hcy : ∀ i, i < ny → w.cell? ⟨gy, i, none⟩ = some (.int .i64 (fy i : Int))) (ha : na ≤ 1048576) (hb : nb ≤ 1048576) (hlx : nx ≤ 1048576) (hly : ny ≤ 1048576)
    (hrx : ∀ i, i < nx → fx i ≤ 1048576) (hry : ∀ i, i < ny → fy i ≤ 1048576) (p q : Nat) (ep : fx 0 = p) (eq : fy 0 = q) (hp : p < na) (hq : q < nb)
    (x1 : w.cell? ⟨bx, ox + p * 3, none⟩ = some (.string x0.act)) (x2 : w.cell? ⟨bx, ox + p * 3 + 1, none⟩ = some (.int .i64 x0.pri)) (x3 : w.cell? ⟨bx, ox + p * 3 + 2, none⟩ = some (.string x0.id))
    (y1 : w.cell? ⟨bY, oy + q * 3, none⟩ = some (.string y0.act)) (y2 : w.cell? ⟨bY, oy + q * 3 + 1, none⟩ = some (.int .i64 y0.pri)) (y3 : w.cell? ⟨bY, oy + q * 3 + 2, none⟩ = some (.string y0.id)) (hrk : rnk x0 y0 = 0) :
    Calls Try.prog 13 #[.slice (some ⟨bx, ox, none⟩) na cap, .slice (some ⟨gx, 0, none⟩) nx capx, .slice (some ⟨bY, oy, none⟩) nb cap2, .slice (some ⟨gy, 0, none⟩) ny capy] w fun e w' => ∃ v, e = .returned v ∧ Out w v ((List.range nx).map fx ++ (List.range ny).map (fun i => fy i + na)) w' := by
  have hmk := make28 (nx + ny) (by omega)
  rw [show ((nx + ny : Nat) : Int) = (nx : Int) + (ny : Int) from by omega] at hmk
  have hO := Out.start w (nx + ny) (by omega)
  have hz : ((nx : Int) == 0) = false := by rw [beq_eq_false_iff_ne]; omega
  have hz2 : ((ny : Int) == 0) = false := by rw [beq_eq_false_iff_ne]; omega
  have kx := hcx 0 hn0
  have ky := hcy 0 hm0
  rw [ep] at kx
  rw [eq] at ky
  have lgx := cell_lt kx
  have lgy := cell_lt ky
  have lbx := cell_lt x1
  have lby := cell_lt y1
  have lgx1 : gx < w.heap.size + 1 := by omega
  have lgy1 : gy < w.heap.size + 1 := by omega
  have lbx1 : bx < w.heap.size + 1 := by omega
  have lby1 : bY < w.heap.size + 1 := by omega
  have lgx2 : gx < w.heap.size + 1 + 1 := by omega
  have lgy2 : gy < w.heap.size + 1 + 1 := by omega
  have lbx2 : bx < w.heap.size + 1 + 1 := by omega
  have lby2 : bY < w.heap.size + 1 + 1 := by omega
  have u1 : (0 : Int) < (nx : Int) := by omega
  have u2 : (0 : Int) < (ny : Int) := by omega
  have u3 : nx ≠ 0 := by omega
  have u4 : ny ≠ 0 := by omega
  have v1 : (p : Int) < (na : Int) := by omega
  have v2 : (q : Int) < (nb : Int) := by omega
  have hfx : 0 < nx → ∃ g, (some ⟨gx, 0, none⟩ : Option Addr) = some ⟨g, 0, none⟩ ∧ ∀ i, i < nx → w.cell? ⟨g, i, none⟩ = some (.int .i64 (fx i : Int)) := fun _ => ⟨gx, rfl, hcx⟩
  have hfy : 0 < ny → ∃ g, (some ⟨gy, 0, none⟩ : Option Addr) = some ⟨g, 0, none⟩ ∧ ∀ i, i < ny → w.cell? ⟨g, i, none⟩ = some (.int .i64 (fy i : Int)) := fun _ => ⟨gy, rfl, hcy⟩
  have HX : Hid (∀ i, i < nx → w.cell? ⟨gx, i, none⟩ = some (.int .i64 (fx i : Int))) := hcx
  have HY : Hid (∀ i, i < ny → w.cell? ⟨gy, i, none⟩ = some (.int .i64 (fy i : Int))) := hcy
  have HRX : Hid (∀ i, i < nx → fx i ≤ 1048576) := hrx
  have HRY : Hid (∀ i, i < ny → fy i ≤ 1048576) := hry
  clear ep eq hp hq hcx hcy hfx hfy hrx hry
  go_enter Try.func13, Try.ntmps13
  go_wp2_with fail
  go_region_held3 (fun w' => w'.cell? ⟨gx, 0, none⟩ = some (.int .i64 (p : Int)) ∧ w'.cell? ⟨gy, 0, none⟩ = some (.int .i64 (q : Int)) ∧ w'.cell? ⟨bx, ox + p * 3, none⟩ = some (.string x0.act) ∧ w'.cell? ⟨bx, ox + p * 3 + 1, none⟩ = some (.int .i64 x0.pri) ∧ w'.cell? ⟨bx, ox + p * 3 + 2, none⟩ = some (.string x0.id) ∧ w'.cell? ⟨bY, oy + q * 3, none⟩ = some (.string y0.act) ∧ w'.cell? ⟨bY, oy + q * 3 + 1, none⟩ = some (.int .i64 y0.pri) ∧ w'.cell? ⟨bY, oy + q * 3 + 2, none⟩ = some (.string y0.id)) (simp [go_sem, World.cell?_alloc_past, *])
    ((go_at_call 15; refine (rankCmp x0 y0 _).mono ?_; rintro e w' ⟨rfl, rfl⟩))
  have h5 : Below (w.alloc (Obj.cells (madeCells #[Value.int .i64 0] (nx + ny)) 3)).heap.size (w.alloc (Obj.cells (madeCells #[Value.int .i64 0] (nx + ny)) 3)) (((w.alloc (Obj.cells (madeCells #[Value.int .i64 0] (nx + ny)) 3)).alloc (Obj.cells #[.string x0.act, .int .i64 x0.pri, .string x0.id] 31)).alloc (Obj.cells #[.string y0.act, .int .i64 y0.pri, .string y0.id] 31)).drew := (((Below.refl _ _).alloc (Nat.le_refl _) _).alloc (by simp) _).drew
  replace hO : Out w (.slice (some ⟨w.heap.size, 0, none⟩) 0 (nx + ny)) [] (((w.alloc (Obj.cells (madeCells #[Value.int .i64 0] (nx + ny)) 3)).alloc (Obj.cells #[.string x0.act, .int .i64 x0.pri, .string x0.id] 31)).alloc (Obj.cells #[.string y0.act, .int .i64 y0.pri, .string y0.id] 31)).drew := ⟨hO.below.trans (h5.mono hO.below.size), own_later hO.own h5⟩
  generalize (((w.alloc (Obj.cells (madeCells #[Value.int .i64 0] (nx + ny)) 3)).alloc (Obj.cells #[.string x0.act, .int .i64 x0.pri, .string x0.id] 31)).alloc (Obj.cells #[.string y0.act, .int .i64 y0.pri, .string y0.id] 31)).drew = W5 at *
  have hfx : 0 < nx → ∃ g, (some ⟨gx, 0, none⟩ : Option Addr) = some ⟨g, 0, none⟩ ∧ ∀ i, i < nx → w.cell? ⟨g, i, none⟩ = some (.int .i64 (fx i : Int)) := fun _ => ⟨gx, rfl, HX.out⟩
  have hfy : 0 < ny → ∃ g, (some ⟨gy, 0, none⟩ : Option Addr) = some ⟨g, 0, none⟩ ∧ ∀ i, i < ny → w.cell? ⟨g, i, none⟩ = some (.int .i64 (fy i : Int)) := fun _ => ⟨gy, rfl, HY.out⟩
  have hrx := HRX.out
  have hry := HRY.out
  clear h5 hmk x1 x2 x3 y1 y2 y3 kx ky lgx lgy lbx lby lgx1 lgy1 lbx1 lby1 lgx2 lgy2 lbx2 lby2 HX HY HRX HRY hrk v1 v2
  go_wp2_with fail
  go_loopw [9, 13] (fun v i wr => ∃ k : Nat, k ≤ nx ∧ i = .int .i64 k ∧ Out w v ((List.range k).map fx) wr) (fun _ i _ => nx - (intOf i).toNat)
  case atStart => exact ⟨0, Nat.zero_le _, rfl, by simpa using hO⟩
  case round =>
    obtain ⟨k, hk, rfl, hO1⟩ := hrel
    clear hO
    by_cases hlt : k < nx
    · obtain ⟨g, eg, hc⟩ := hfx (by omega)
      obtain rfl : g = gx := by simpa using eg.symm
      clear eg
      have hck := hc k hlt
      have hg : g < w.heap.size := cell_lt hck
      rw [← hO1.below.cell (p := ⟨g, k, none⟩) hg] at hck
      have hown := hO1.own
      have hbase := hO1.below.size
      have i1 : (k : Int) < (nx : Int) := by omega
      have hln : ((List.range k).map fx).length ≤ 4194304 := by simp; omega
      have hz1 : (fx k : Int) ≤ 1048576 := by have := hrx k hlt; omega
      have hnext : (List.range (k + 1)).map fx = ((List.range k).map fx) ++ [fx k] := by simp [List.range_succ]
      have HN : Hid ((List.range (k + 1)).map fx = ((List.range k).map fx) ++ [fx k]) := hnext
      have HO : Hid (∀ (g cap : Nat) (w' : World), Below w.heap.size wr w' → w'.ownsRow w.heap.size 3 1 (.slice (some ⟨g, 0, none⟩) (((List.range k).map fx).length + 1) cap) (((List.range k).map fx).length + 1) (iv ((List.range k).map fx) ++ [.int .i64 ((fx k : Nat) : Int)]) → Out w (.slice (some ⟨g, 0, none⟩) (((List.range k).map fx).length + 1) cap) (((List.range k).map fx) ++ [fx k]) w') := fun g cap w' h1 h2 => hO1.step _ h1 h2
      generalize hl : ((List.range k).map fx) = pl at *
      clear hl hnext hc hO1 hfx hfy hrx hry
      go_wp2_with (at_builtin; refine app_one wr (((fx k : Nat) : Int)) (by rfl) _ _ (by rfl) w.heap.size _ pl.length (iv pl) (by rfl) (by rfl) hown hln hbase ?_; intro g' cap' w' hown' hbel')
      refine ⟨⟨k + 1, by omega, by go_num, ?_⟩, by simp [intOf]; omega⟩
      rw [HN.out]
      exact HO.out g' cap' w' hbel' (by simpa using hown')
    · obtain rfl : nx = k := by omega
      clear hlt hk
      have hO := hO1
      clear hO1
      go_wp2_with fail
      go_loopw [9, 14] (fun v i wr => ∃ k : Nat, k ≤ ny ∧ i = .int .i64 k ∧ Out w v ((List.range nx).map fx ++ (List.range k).map (fun i => fy i + na)) wr) (fun _ i _ => ny - (intOf i).toNat)
      case atStart => exact ⟨0, Nat.zero_le _, rfl, by simpa using hO⟩
      case round =>
        obtain ⟨k, hk, rfl, hO1⟩ := hrel
        clear hO
        by_cases hlt : k < ny
        · obtain ⟨g, eg, hc⟩ := hfy (by omega)
          obtain rfl : g = gy := by simpa using eg.symm
          clear eg
          have hck := hc k hlt
          have hg : g < w.heap.size := cell_lt hck
          rw [← hO1.below.cell (p := ⟨g, k, none⟩) hg] at hck
          have hown := hO1.own
          have hbase := hO1.below.size
          have i1 : (k : Int) < (ny : Int) := by omega
          have hln : ((List.range nx).map fx ++ (List.range k).map (fun i => fy i + na)).length ≤ 4194304 := by simp; omega
          have hz1 : (fy k : Int) ≤ 1048576 := by have := hry k hlt; omega
          have hnext : (List.range nx).map fx ++ (List.range (k + 1)).map (fun i => fy i + na) = ((List.range nx).map fx ++ (List.range k).map (fun i => fy i + na)) ++ [fy k + na] := by simp [List.range_succ]
          have HN : Hid ((List.range nx).map fx ++ (List.range (k + 1)).map (fun i => fy i + na) = ((List.range nx).map fx ++ (List.range k).map (fun i => fy i + na)) ++ [fy k + na]) := hnext
          have HO : Hid (∀ (g cap : Nat) (w' : World), Below w.heap.size wr w' → w'.ownsRow w.heap.size 3 1 (.slice (some ⟨g, 0, none⟩) (((List.range nx).map fx ++ (List.range k).map (fun i => fy i + na)).length + 1) cap) (((List.range nx).map fx ++ (List.range k).map (fun i => fy i + na)).length + 1) (iv ((List.range nx).map fx ++ (List.range k).map (fun i => fy i + na)) ++ [.int .i64 ((fy k + na : Nat) : Int)]) → Out w (.slice (some ⟨g, 0, none⟩) (((List.range nx).map fx ++ (List.range k).map (fun i => fy i + na)).length + 1) cap) (((List.range nx).map fx ++ (List.range k).map (fun i => fy i + na)) ++ [fy k + na]) w') := fun g cap w' h1 h2 => hO1.step _ h1 h2
          generalize hl : ((List.range nx).map fx ++ (List.range k).map (fun i => fy i + na)) = pl at *
          clear hl hnext hc hO1 hfx hfy hrx hry
          go_wp2_with (at_builtin; refine app_one wr (((fy k : Nat) : Int) + (na : Int)) (by rfl) _ _ (by rfl) w.heap.size _ pl.length (iv pl) (by rfl) (by rfl) hown hln hbase ?_; intro g' cap' w' hown' hbel')
          refine ⟨⟨k + 1, by omega, by go_num, ?_⟩, by simp [intOf]; omega⟩
          rw [HN.out]
          exact HO.out g' cap' w' hbel' (by simpa using hown')
        · obtain rfl : ny = k := by omega
          clear hlt hk
          clear hfx hfy hrx hry
          go_wp2
          go_ret
          exact ⟨_, rfl, hO1⟩

end Go.Proofs.Qxb6632316a
