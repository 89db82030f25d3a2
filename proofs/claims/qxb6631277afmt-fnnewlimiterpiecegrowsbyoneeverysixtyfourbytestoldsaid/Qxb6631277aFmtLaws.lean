/-
  THE WALKS of the two laws of seat b6631277aF (functions 3 and 4), out of the contracts of Qxb6631277aFmtWalks.lean.
-/
import Derived.Test.Qxb6631277aFmtWalks
import Derived.Deep.RegionWith
import Derived.OpenShut
namespace Go.Proofs.Qxb6631277aFmt
open Go.RowKit

theorem two_cells (w : World) (r p r' p' : Int) :
    ((w.alloc (.cells (lim r p) 42)).alloc (.cells (lim r' p') 42)).cell? ⟨w.heap.size, 0, none⟩ = some (.int .i64 r) ∧
    ((w.alloc (.cells (lim r p) 42)).alloc (.cells (lim r' p') 42)).cell? ⟨w.heap.size, 1, none⟩ = some (.int .i64 p) ∧
    ((w.alloc (.cells (lim r p) 42)).alloc (.cells (lim r' p') 42)).cell? ⟨w.heap.size + 1, 0, none⟩ = some (.int .i64 r') ∧
    ((w.alloc (.cells (lim r p) 42)).alloc (.cells (lim r' p') 42)).cell? ⟨w.heap.size + 1, 1, none⟩ = some (.int .i64 p') := by
  refine ⟨?_, ?_, ?_, ?_⟩ <;> simp [go_sem, lim]

set_option maxHeartbeats 400000 in
theorem grows (r : Int) (h0 : 0 ≤ r) (hm : r ≤ 9223372036854775743) (w : World) :
    Calls Tryf.prog 3 #[.int .i64 r] w fun e w' => e = .returned (.bool true) ∧ Grown w w' := by
  obtain ⟨p, hp⟩ := isP_ex r h0 (by omega)
  obtain ⟨p', hp'⟩ := isP_ex (r + 64) (by omega) (by omega)
  have hn : ¬ r < 0 := by omega
  obtain ⟨c0, c1, c2, c3⟩ := two_cells w r p (r + 64) p'
  have hb := hp.hi
  have hb' := hp.lo
  by_cases hr : 64 ≤ r
  · have e0 : (p' == p + 1) = true := by
      rw [beq_iff_eq]
      have := hp.great hr
      have := hp'.great (by omega)
      omega
    go_enter Tryf.func3, Tryf.ntmps3
    go_wp2_with fail
    refine (newlim r p h0 (by omega) hp _).mono ?_
    rintro e w1 ⟨rfl, rfl⟩
    go_wp2_with fail
    refine (newlim (r + 64) p' (by omega) (by omega) hp' _).mono ?_
    rintro e w1 ⟨rfl, rfl⟩
    go_wp2_with (first | (go_at_call_of 6 (Value.pointer (some ⟨w.heap.size, 0, none⟩)); refine (zzrate _ _ _ c0).mono ?_; rintro e w1 ⟨rfl, rfl⟩) | (go_at_call 6; refine (zzrate _ _ _ c2).mono ?_; rintro e w1 ⟨rfl, rfl⟩) | (go_at_call_of 7 (Value.pointer (some ⟨w.heap.size, 0, none⟩)); refine (zzpiece _ _ _ c1).mono ?_; rintro e w1 ⟨rfl, rfl⟩) | (go_at_call 7; refine (zzpiece _ _ _ c3).mono ?_; rintro e w1 ⟨rfl, rfl⟩) | (go_at_call 8; refine (right r p h0 (by omega) hp _).mono ?_; rintro e w1 ⟨rfl, rfl⟩))
    go_ret
    exact ⟨rfl, by repeat (first | exact Grown.refl _ | apply Grown.drew | apply Grown.alloc)⟩
  · have e0 : (p' == p) = true := by
      rw [beq_iff_eq]
      have := hp.small (by omega)
      have := hp'.great (by omega)
      omega
    go_enter Tryf.func3, Tryf.ntmps3
    go_wp2_with fail
    refine (newlim r p h0 (by omega) hp _).mono ?_
    rintro e w1 ⟨rfl, rfl⟩
    go_wp2_with fail
    refine (newlim (r + 64) p' (by omega) (by omega) hp' _).mono ?_
    rintro e w1 ⟨rfl, rfl⟩
    go_wp2_with (first | (go_at_call_of 6 (Value.pointer (some ⟨w.heap.size, 0, none⟩)); refine (zzrate _ _ _ c0).mono ?_; rintro e w1 ⟨rfl, rfl⟩) | (go_at_call 6; refine (zzrate _ _ _ c2).mono ?_; rintro e w1 ⟨rfl, rfl⟩) | (go_at_call_of 7 (Value.pointer (some ⟨w.heap.size, 0, none⟩)); refine (zzpiece _ _ _ c1).mono ?_; rintro e w1 ⟨rfl, rfl⟩) | (go_at_call 7; refine (zzpiece _ _ _ c3).mono ?_; rintro e w1 ⟨rfl, rfl⟩) | (go_at_call 8; refine (right r p h0 (by omega) hp _).mono ?_; rintro e w1 ⟨rfl, rfl⟩))
    go_ret
    exact ⟨rfl, by repeat (first | exact Grown.refl _ | apply Grown.drew | apply Grown.alloc)⟩

/-- The law at every rate. -/
theorem law3 (r : Int) (hw : (Lit.int .i64 r).wf = true) (w : World) :
    Calls Tryf.prog 3 #[.int .i64 r] w fun e w' => e = .returned (.bool true) ∧ Grown w w' := by
  have hb := bounds_i64 hw
  by_cases h0 : r < 0
  · go_enter Tryf.func3, Tryf.ntmps3
    go_wp2
    go_ret
    exact ⟨rfl, Grown.refl _⟩
  · by_cases hm : 9223372036854775743 < r
    · go_enter Tryf.func3, Tryf.ntmps3
      go_wp2
      go_ret
      exact ⟨rfl, Grown.refl _⟩
    · exact grows r (by omega) (by omega) w

theorem three_cells (w : World) (r p r' p' r'' p'' : Int) :
    (((w.alloc (.cells (lim r p) 42)).alloc (.cells (lim r' p') 42)).alloc (.cells (lim r'' p'') 42)).cell? ⟨w.heap.size, 0, none⟩ = some (.int .i64 r) ∧
    (((w.alloc (.cells (lim r p) 42)).alloc (.cells (lim r' p') 42)).alloc (.cells (lim r'' p'') 42)).cell? ⟨w.heap.size, 1, none⟩ = some (.int .i64 p) ∧
    (((w.alloc (.cells (lim r p) 42)).alloc (.cells (lim r' p') 42)).alloc (.cells (lim r'' p'') 42)).cell? ⟨w.heap.size + 1, 0, none⟩ = some (.int .i64 r') ∧
    (((w.alloc (.cells (lim r p) 42)).alloc (.cells (lim r' p') 42)).alloc (.cells (lim r'' p'') 42)).cell? ⟨w.heap.size + 1, 1, none⟩ = some (.int .i64 p') ∧
    (((w.alloc (.cells (lim r p) 42)).alloc (.cells (lim r' p') 42)).alloc (.cells (lim r'' p'') 42)).cell? ⟨w.heap.size + 1 + 1, 0, none⟩ = some (.int .i64 r'') ∧
    (((w.alloc (.cells (lim r p) 42)).alloc (.cells (lim r' p') 42)).alloc (.cells (lim r'' p'') 42)).cell? ⟨w.heap.size + 1 + 1, 1, none⟩ = some (.int .i64 p'') := by
  refine ⟨?_, ?_, ?_, ?_, ?_, ?_⟩ <;> simp [go_sem, lim]

set_option maxHeartbeats 1000000 in
theorem carry11 (a b p q t : Int) (h0 : 0 ≤ a) (g0 : 0 ≤ b) (hm : a + b ≤ 9223372036854775807) (hp : IsP a p) (hq : IsP b q) (ht : IsP (a + b) t) (w : World) (ha : 64 ≤ a) (hb : 64 ≤ b) (hc : 64 ≤ a - 64 * p + (b - 64 * q)) :
    Calls Tryf.prog 4 #[.int .i64 a, .int .i64 b] w fun e w' => e = .returned (.bool true) ∧ Grown w w' := by
  have hn : ¬ a < 0 := by omega
  have gn : ¬ b < 0 := by omega
  have ho : ¬ 9223372036854775807 - b < a := by omega
  obtain ⟨c0, c1, c2, c3, c4, c5⟩ := three_cells w a p b q (a + b) t
  have p1 := hp.hi
  have p2 := hp.lo
  have q1 := hq.hi
  have q2 := hq.lo
  obtain ⟨a1, a2⟩ := hp.great ha
  obtain ⟨b1, b2⟩ := hq.great hb
  have e0 : (t == p + q + 1) = true := by
    rw [beq_iff_eq]
    have := ht.great (by omega)
    omega
  go_enter Tryf.func4, Tryf.ntmps4
  go_wp2_with fail
  refine (newlim a p h0 (by omega) hp _).mono ?_
  rintro e w1 ⟨rfl, rfl⟩
  go_wp2_with fail
  refine (newlim b q g0 (by omega) hq _).mono ?_
  rintro e w1 ⟨rfl, rfl⟩
  go_wp2_with fail
  refine (newlim (a + b) t (by omega) (by omega) ht _).mono ?_
  rintro e w1 ⟨rfl, rfl⟩
  go_wp2_with fail
  refine (zzrate _ _ _ c0).mono ?_
  rintro e w1 ⟨rfl, rfl⟩
  go_wp2_with fail
  refine (zzrate _ _ _ c2).mono ?_
  rintro e w1 ⟨rfl, rfl⟩
  go_wp2_with fail
  refine (zzrate _ _ _ c4).mono ?_
  rintro e w1 ⟨rfl, rfl⟩
  go_wp2_with fail
  refine (zzpiece _ _ _ c1).mono ?_
  rintro e w1 ⟨rfl, rfl⟩
  go_wp2_with fail
  refine (zzpiece _ _ _ c3).mono ?_
  rintro e w1 ⟨rfl, rfl⟩
  go_wp2_with fail
  refine (zzpiece _ _ _ c5).mono ?_
  rintro e w1 ⟨rfl, rfl⟩
  go_wp2_with fail
  refine (right a p h0 (by omega) hp _).mono ?_
  rintro e w1 ⟨rfl, rfl⟩
  go_wp2_with fail
  refine (right b q g0 (by omega) hq _).mono ?_
  rintro e w1 ⟨rfl, rfl⟩
  go_wp2
  go_ret
  exact ⟨rfl, by repeat (first | exact Grown.refl _ | apply Grown.drew | apply Grown.alloc)⟩

set_option maxHeartbeats 1000000 in
theorem carry12 (a b p q t : Int) (h0 : 0 ≤ a) (g0 : 0 ≤ b) (hm : a + b ≤ 9223372036854775807) (hp : IsP a p) (hq : IsP b q) (ht : IsP (a + b) t) (w : World) (ha : 64 ≤ a) (hb : 64 ≤ b) (hc : a - 64 * p + (b - 64 * q) < 64) :
    Calls Tryf.prog 4 #[.int .i64 a, .int .i64 b] w fun e w' => e = .returned (.bool true) ∧ Grown w w' := by
  have hn : ¬ a < 0 := by omega
  have gn : ¬ b < 0 := by omega
  have ho : ¬ 9223372036854775807 - b < a := by omega
  obtain ⟨c0, c1, c2, c3, c4, c5⟩ := three_cells w a p b q (a + b) t
  have p1 := hp.hi
  have p2 := hp.lo
  have q1 := hq.hi
  have q2 := hq.lo
  obtain ⟨a1, a2⟩ := hp.great ha
  obtain ⟨b1, b2⟩ := hq.great hb
  have e0 : (t == p + q) = true := by
    rw [beq_iff_eq]
    have := ht.great (by omega)
    omega
  go_enter Tryf.func4, Tryf.ntmps4
  go_wp2_with fail
  refine (newlim a p h0 (by omega) hp _).mono ?_
  rintro e w1 ⟨rfl, rfl⟩
  go_wp2_with fail
  refine (newlim b q g0 (by omega) hq _).mono ?_
  rintro e w1 ⟨rfl, rfl⟩
  go_wp2_with fail
  refine (newlim (a + b) t (by omega) (by omega) ht _).mono ?_
  rintro e w1 ⟨rfl, rfl⟩
  go_wp2_with fail
  refine (zzrate _ _ _ c0).mono ?_
  rintro e w1 ⟨rfl, rfl⟩
  go_wp2_with fail
  refine (zzrate _ _ _ c2).mono ?_
  rintro e w1 ⟨rfl, rfl⟩
  go_wp2_with fail
  refine (zzrate _ _ _ c4).mono ?_
  rintro e w1 ⟨rfl, rfl⟩
  go_wp2_with fail
  refine (zzpiece _ _ _ c1).mono ?_
  rintro e w1 ⟨rfl, rfl⟩
  go_wp2_with fail
  refine (zzpiece _ _ _ c3).mono ?_
  rintro e w1 ⟨rfl, rfl⟩
  go_wp2_with fail
  refine (zzpiece _ _ _ c5).mono ?_
  rintro e w1 ⟨rfl, rfl⟩
  go_wp2_with fail
  refine (right a p h0 (by omega) hp _).mono ?_
  rintro e w1 ⟨rfl, rfl⟩
  go_wp2_with fail
  refine (right b q g0 (by omega) hq _).mono ?_
  rintro e w1 ⟨rfl, rfl⟩
  go_wp2
  go_ret
  exact ⟨rfl, by repeat (first | exact Grown.refl _ | apply Grown.drew | apply Grown.alloc)⟩

set_option maxHeartbeats 1000000 in
theorem carry21 (a b p q t : Int) (h0 : 0 ≤ a) (g0 : 0 ≤ b) (hm : a + b ≤ 9223372036854775807) (hp : IsP a p) (hq : IsP b q) (ht : IsP (a + b) t) (w : World) (ha : 64 ≤ a) (hb : b < 64) (hc : 64 ≤ a - 64 * p + b) :
    Calls Tryf.prog 4 #[.int .i64 a, .int .i64 b] w fun e w' => e = .returned (.bool true) ∧ Grown w w' := by
  have hn : ¬ a < 0 := by omega
  have gn : ¬ b < 0 := by omega
  have ho : ¬ 9223372036854775807 - b < a := by omega
  obtain ⟨c0, c1, c2, c3, c4, c5⟩ := three_cells w a p b q (a + b) t
  have p1 := hp.hi
  have p2 := hp.lo
  have q1 := hq.hi
  have q2 := hq.lo
  obtain ⟨a1, a2⟩ := hp.great ha
  have e0 : (t == p + 1) = true := by
    rw [beq_iff_eq]
    have := ht.great (by omega)
    omega
  go_enter Tryf.func4, Tryf.ntmps4
  go_wp2_with fail
  refine (newlim a p h0 (by omega) hp _).mono ?_
  rintro e w1 ⟨rfl, rfl⟩
  go_wp2_with fail
  refine (newlim b q g0 (by omega) hq _).mono ?_
  rintro e w1 ⟨rfl, rfl⟩
  go_wp2_with fail
  refine (newlim (a + b) t (by omega) (by omega) ht _).mono ?_
  rintro e w1 ⟨rfl, rfl⟩
  go_wp2_with fail
  refine (zzrate _ _ _ c0).mono ?_
  rintro e w1 ⟨rfl, rfl⟩
  go_wp2_with fail
  refine (zzrate _ _ _ c2).mono ?_
  rintro e w1 ⟨rfl, rfl⟩
  go_wp2_with fail
  refine (zzrate _ _ _ c4).mono ?_
  rintro e w1 ⟨rfl, rfl⟩
  go_wp2_with fail
  refine (zzpiece _ _ _ c1).mono ?_
  rintro e w1 ⟨rfl, rfl⟩
  go_wp2_with fail
  refine (zzpiece _ _ _ c3).mono ?_
  rintro e w1 ⟨rfl, rfl⟩
  go_wp2_with fail
  refine (zzpiece _ _ _ c5).mono ?_
  rintro e w1 ⟨rfl, rfl⟩
  go_wp2_with fail
  refine (right a p h0 (by omega) hp _).mono ?_
  rintro e w1 ⟨rfl, rfl⟩
  go_wp2_with fail
  refine (right b q g0 (by omega) hq _).mono ?_
  rintro e w1 ⟨rfl, rfl⟩
  go_wp2
  go_ret
  exact ⟨rfl, by repeat (first | exact Grown.refl _ | apply Grown.drew | apply Grown.alloc)⟩

set_option maxHeartbeats 1000000 in
theorem carry22 (a b p q t : Int) (h0 : 0 ≤ a) (g0 : 0 ≤ b) (hm : a + b ≤ 9223372036854775807) (hp : IsP a p) (hq : IsP b q) (ht : IsP (a + b) t) (w : World) (ha : 64 ≤ a) (hb : b < 64) (hc : a - 64 * p + b < 64) :
    Calls Tryf.prog 4 #[.int .i64 a, .int .i64 b] w fun e w' => e = .returned (.bool true) ∧ Grown w w' := by
  have hn : ¬ a < 0 := by omega
  have gn : ¬ b < 0 := by omega
  have ho : ¬ 9223372036854775807 - b < a := by omega
  obtain ⟨c0, c1, c2, c3, c4, c5⟩ := three_cells w a p b q (a + b) t
  have p1 := hp.hi
  have p2 := hp.lo
  have q1 := hq.hi
  have q2 := hq.lo
  obtain ⟨a1, a2⟩ := hp.great ha
  have e0 : (t == p) = true := by
    rw [beq_iff_eq]
    have := ht.great (by omega)
    omega
  go_enter Tryf.func4, Tryf.ntmps4
  go_wp2_with fail
  refine (newlim a p h0 (by omega) hp _).mono ?_
  rintro e w1 ⟨rfl, rfl⟩
  go_wp2_with fail
  refine (newlim b q g0 (by omega) hq _).mono ?_
  rintro e w1 ⟨rfl, rfl⟩
  go_wp2_with fail
  refine (newlim (a + b) t (by omega) (by omega) ht _).mono ?_
  rintro e w1 ⟨rfl, rfl⟩
  go_wp2_with fail
  refine (zzrate _ _ _ c0).mono ?_
  rintro e w1 ⟨rfl, rfl⟩
  go_wp2_with fail
  refine (zzrate _ _ _ c2).mono ?_
  rintro e w1 ⟨rfl, rfl⟩
  go_wp2_with fail
  refine (zzrate _ _ _ c4).mono ?_
  rintro e w1 ⟨rfl, rfl⟩
  go_wp2_with fail
  refine (zzpiece _ _ _ c1).mono ?_
  rintro e w1 ⟨rfl, rfl⟩
  go_wp2_with fail
  refine (zzpiece _ _ _ c3).mono ?_
  rintro e w1 ⟨rfl, rfl⟩
  go_wp2_with fail
  refine (zzpiece _ _ _ c5).mono ?_
  rintro e w1 ⟨rfl, rfl⟩
  go_wp2_with fail
  refine (right a p h0 (by omega) hp _).mono ?_
  rintro e w1 ⟨rfl, rfl⟩
  go_wp2_with fail
  refine (right b q g0 (by omega) hq _).mono ?_
  rintro e w1 ⟨rfl, rfl⟩
  go_wp2
  go_ret
  exact ⟨rfl, by repeat (first | exact Grown.refl _ | apply Grown.drew | apply Grown.alloc)⟩

set_option maxHeartbeats 1000000 in
theorem carry31 (a b p q t : Int) (h0 : 0 ≤ a) (g0 : 0 ≤ b) (hm : a + b ≤ 9223372036854775807) (hp : IsP a p) (hq : IsP b q) (ht : IsP (a + b) t) (w : World) (ha : a < 64) (hb : 64 ≤ b) (hc : 64 ≤ a + (b - 64 * q)) :
    Calls Tryf.prog 4 #[.int .i64 a, .int .i64 b] w fun e w' => e = .returned (.bool true) ∧ Grown w w' := by
  have hn : ¬ a < 0 := by omega
  have gn : ¬ b < 0 := by omega
  have ho : ¬ 9223372036854775807 - b < a := by omega
  obtain ⟨c0, c1, c2, c3, c4, c5⟩ := three_cells w a p b q (a + b) t
  have p1 := hp.hi
  have p2 := hp.lo
  have q1 := hq.hi
  have q2 := hq.lo
  obtain ⟨b1, b2⟩ := hq.great hb
  have e0 : (t == q + 1) = true := by
    rw [beq_iff_eq]
    have := ht.great (by omega)
    omega
  go_enter Tryf.func4, Tryf.ntmps4
  go_wp2_with fail
  refine (newlim a p h0 (by omega) hp _).mono ?_
  rintro e w1 ⟨rfl, rfl⟩
  go_wp2_with fail
  refine (newlim b q g0 (by omega) hq _).mono ?_
  rintro e w1 ⟨rfl, rfl⟩
  go_wp2_with fail
  refine (newlim (a + b) t (by omega) (by omega) ht _).mono ?_
  rintro e w1 ⟨rfl, rfl⟩
  go_wp2_with fail
  refine (zzrate _ _ _ c0).mono ?_
  rintro e w1 ⟨rfl, rfl⟩
  go_wp2_with fail
  refine (zzrate _ _ _ c2).mono ?_
  rintro e w1 ⟨rfl, rfl⟩
  go_wp2_with fail
  refine (zzrate _ _ _ c4).mono ?_
  rintro e w1 ⟨rfl, rfl⟩
  go_wp2_with fail
  refine (zzpiece _ _ _ c1).mono ?_
  rintro e w1 ⟨rfl, rfl⟩
  go_wp2_with fail
  refine (zzpiece _ _ _ c3).mono ?_
  rintro e w1 ⟨rfl, rfl⟩
  go_wp2_with fail
  refine (zzpiece _ _ _ c5).mono ?_
  rintro e w1 ⟨rfl, rfl⟩
  go_wp2_with fail
  refine (right a p h0 (by omega) hp _).mono ?_
  rintro e w1 ⟨rfl, rfl⟩
  go_wp2_with fail
  refine (right b q g0 (by omega) hq _).mono ?_
  rintro e w1 ⟨rfl, rfl⟩
  go_wp2
  go_ret
  exact ⟨rfl, by repeat (first | exact Grown.refl _ | apply Grown.drew | apply Grown.alloc)⟩

set_option maxHeartbeats 1000000 in
theorem carry32 (a b p q t : Int) (h0 : 0 ≤ a) (g0 : 0 ≤ b) (hm : a + b ≤ 9223372036854775807) (hp : IsP a p) (hq : IsP b q) (ht : IsP (a + b) t) (w : World) (ha : a < 64) (hb : 64 ≤ b) (hc : a + (b - 64 * q) < 64) :
    Calls Tryf.prog 4 #[.int .i64 a, .int .i64 b] w fun e w' => e = .returned (.bool true) ∧ Grown w w' := by
  have hn : ¬ a < 0 := by omega
  have gn : ¬ b < 0 := by omega
  have ho : ¬ 9223372036854775807 - b < a := by omega
  obtain ⟨c0, c1, c2, c3, c4, c5⟩ := three_cells w a p b q (a + b) t
  have p1 := hp.hi
  have p2 := hp.lo
  have q1 := hq.hi
  have q2 := hq.lo
  obtain ⟨b1, b2⟩ := hq.great hb
  have e0 : (t == q) = true := by
    rw [beq_iff_eq]
    have := ht.great (by omega)
    omega
  go_enter Tryf.func4, Tryf.ntmps4
  go_wp2_with fail
  refine (newlim a p h0 (by omega) hp _).mono ?_
  rintro e w1 ⟨rfl, rfl⟩
  go_wp2_with fail
  refine (newlim b q g0 (by omega) hq _).mono ?_
  rintro e w1 ⟨rfl, rfl⟩
  go_wp2_with fail
  refine (newlim (a + b) t (by omega) (by omega) ht _).mono ?_
  rintro e w1 ⟨rfl, rfl⟩
  go_wp2_with fail
  refine (zzrate _ _ _ c0).mono ?_
  rintro e w1 ⟨rfl, rfl⟩
  go_wp2_with fail
  refine (zzrate _ _ _ c2).mono ?_
  rintro e w1 ⟨rfl, rfl⟩
  go_wp2_with fail
  refine (zzrate _ _ _ c4).mono ?_
  rintro e w1 ⟨rfl, rfl⟩
  go_wp2_with fail
  refine (zzpiece _ _ _ c1).mono ?_
  rintro e w1 ⟨rfl, rfl⟩
  go_wp2_with fail
  refine (zzpiece _ _ _ c3).mono ?_
  rintro e w1 ⟨rfl, rfl⟩
  go_wp2_with fail
  refine (zzpiece _ _ _ c5).mono ?_
  rintro e w1 ⟨rfl, rfl⟩
  go_wp2_with fail
  refine (right a p h0 (by omega) hp _).mono ?_
  rintro e w1 ⟨rfl, rfl⟩
  go_wp2_with fail
  refine (right b q g0 (by omega) hq _).mono ?_
  rintro e w1 ⟨rfl, rfl⟩
  go_wp2
  go_ret
  exact ⟨rfl, by repeat (first | exact Grown.refl _ | apply Grown.drew | apply Grown.alloc)⟩

set_option maxHeartbeats 1000000 in
theorem carry41 (a b p q t : Int) (h0 : 0 ≤ a) (g0 : 0 ≤ b) (hm : a + b ≤ 9223372036854775807) (hp : IsP a p) (hq : IsP b q) (ht : IsP (a + b) t) (w : World) (ha : a < 64) (hb : b < 64) (hc : 64 ≤ a + b) :
    Calls Tryf.prog 4 #[.int .i64 a, .int .i64 b] w fun e w' => e = .returned (.bool true) ∧ Grown w w' := by
  have hn : ¬ a < 0 := by omega
  have gn : ¬ b < 0 := by omega
  have ho : ¬ 9223372036854775807 - b < a := by omega
  obtain ⟨c0, c1, c2, c3, c4, c5⟩ := three_cells w a p b q (a + b) t
  have p1 := hp.hi
  have p2 := hp.lo
  have q1 := hq.hi
  have q2 := hq.lo
  have e0 : (t == 1) = true := by
    rw [beq_iff_eq]
    have := ht.great (by omega)
    omega
  go_enter Tryf.func4, Tryf.ntmps4
  go_wp2_with fail
  refine (newlim a p h0 (by omega) hp _).mono ?_
  rintro e w1 ⟨rfl, rfl⟩
  go_wp2_with fail
  refine (newlim b q g0 (by omega) hq _).mono ?_
  rintro e w1 ⟨rfl, rfl⟩
  go_wp2_with fail
  refine (newlim (a + b) t (by omega) (by omega) ht _).mono ?_
  rintro e w1 ⟨rfl, rfl⟩
  go_wp2_with fail
  refine (zzrate _ _ _ c0).mono ?_
  rintro e w1 ⟨rfl, rfl⟩
  go_wp2_with fail
  refine (zzrate _ _ _ c2).mono ?_
  rintro e w1 ⟨rfl, rfl⟩
  go_wp2_with fail
  refine (zzrate _ _ _ c4).mono ?_
  rintro e w1 ⟨rfl, rfl⟩
  go_wp2_with fail
  refine (zzpiece _ _ _ c1).mono ?_
  rintro e w1 ⟨rfl, rfl⟩
  go_wp2_with fail
  refine (zzpiece _ _ _ c3).mono ?_
  rintro e w1 ⟨rfl, rfl⟩
  go_wp2_with fail
  refine (zzpiece _ _ _ c5).mono ?_
  rintro e w1 ⟨rfl, rfl⟩
  go_wp2_with fail
  refine (right a p h0 (by omega) hp _).mono ?_
  rintro e w1 ⟨rfl, rfl⟩
  go_wp2_with fail
  refine (right b q g0 (by omega) hq _).mono ?_
  rintro e w1 ⟨rfl, rfl⟩
  go_wp2
  go_ret
  exact ⟨rfl, by repeat (first | exact Grown.refl _ | apply Grown.drew | apply Grown.alloc)⟩

set_option maxHeartbeats 1000000 in
theorem carry42 (a b p q t : Int) (h0 : 0 ≤ a) (g0 : 0 ≤ b) (hm : a + b ≤ 9223372036854775807) (hp : IsP a p) (hq : IsP b q) (ht : IsP (a + b) t) (w : World) (ha : a < 64) (hb : b < 64) (hc : a + b < 64) :
    Calls Tryf.prog 4 #[.int .i64 a, .int .i64 b] w fun e w' => e = .returned (.bool true) ∧ Grown w w' := by
  have hn : ¬ a < 0 := by omega
  have gn : ¬ b < 0 := by omega
  have ho : ¬ 9223372036854775807 - b < a := by omega
  obtain ⟨c0, c1, c2, c3, c4, c5⟩ := three_cells w a p b q (a + b) t
  have p1 := hp.hi
  have p2 := hp.lo
  have q1 := hq.hi
  have q2 := hq.lo
  have e0 : (t == 1) = true := by
    rw [beq_iff_eq]
    have := ht.small (by omega)
    omega
  go_enter Tryf.func4, Tryf.ntmps4
  go_wp2_with fail
  refine (newlim a p h0 (by omega) hp _).mono ?_
  rintro e w1 ⟨rfl, rfl⟩
  go_wp2_with fail
  refine (newlim b q g0 (by omega) hq _).mono ?_
  rintro e w1 ⟨rfl, rfl⟩
  go_wp2_with fail
  refine (newlim (a + b) t (by omega) (by omega) ht _).mono ?_
  rintro e w1 ⟨rfl, rfl⟩
  go_wp2_with fail
  refine (zzrate _ _ _ c0).mono ?_
  rintro e w1 ⟨rfl, rfl⟩
  go_wp2_with fail
  refine (zzrate _ _ _ c2).mono ?_
  rintro e w1 ⟨rfl, rfl⟩
  go_wp2_with fail
  refine (zzrate _ _ _ c4).mono ?_
  rintro e w1 ⟨rfl, rfl⟩
  go_wp2_with fail
  refine (zzpiece _ _ _ c1).mono ?_
  rintro e w1 ⟨rfl, rfl⟩
  go_wp2_with fail
  refine (zzpiece _ _ _ c3).mono ?_
  rintro e w1 ⟨rfl, rfl⟩
  go_wp2_with fail
  refine (zzpiece _ _ _ c5).mono ?_
  rintro e w1 ⟨rfl, rfl⟩
  go_wp2_with fail
  refine (right a p h0 (by omega) hp _).mono ?_
  rintro e w1 ⟨rfl, rfl⟩
  go_wp2_with fail
  refine (right b q g0 (by omega) hq _).mono ?_
  rintro e w1 ⟨rfl, rfl⟩
  go_wp2
  go_ret
  exact ⟨rfl, by repeat (first | exact Grown.refl _ | apply Grown.drew | apply Grown.alloc)⟩

/-- The law at every two rates. -/
theorem law4 (a b : Int) (wa : (Lit.int .i64 a).wf = true) (wb : (Lit.int .i64 b).wf = true) (w : World) :
    Calls Tryf.prog 4 #[.int .i64 a, .int .i64 b] w fun e w' => e = .returned (.bool true) ∧ Grown w w' := by
  have ha := bounds_i64 wa
  have hb := bounds_i64 wb
  by_cases h0 : a < 0
  · go_enter Tryf.func4, Tryf.ntmps4
    go_wp2
    go_ret
    exact ⟨rfl, Grown.refl _⟩
  by_cases g0 : b < 0
  · go_enter Tryf.func4, Tryf.ntmps4
    go_wp2
    go_ret
    exact ⟨rfl, Grown.refl _⟩
  by_cases hm : 9223372036854775807 - b < a
  · go_enter Tryf.func4, Tryf.ntmps4
    go_wp2
    go_ret
    exact ⟨rfl, Grown.refl _⟩
  have h0' : 0 ≤ a := by omega
  have g0' : 0 ≤ b := by omega
  have hs : a + b ≤ 9223372036854775807 := by omega
  obtain ⟨p, hp⟩ := isP_ex a h0' (by omega)
  obtain ⟨q, hq⟩ := isP_ex b g0' (by omega)
  obtain ⟨t, ht⟩ := isP_ex (a + b) (by omega) hs
  by_cases ca : 64 ≤ a
  · by_cases cb : 64 ≤ b
    · by_cases cc : 64 ≤ a - 64 * p + (b - 64 * q)
      · exact carry11 a b p q t h0' g0' hs hp hq ht w ca cb cc
      · exact carry12 a b p q t h0' g0' hs hp hq ht w ca cb (by omega)
    · by_cases cc : 64 ≤ a - 64 * p + b
      · exact carry21 a b p q t h0' g0' hs hp hq ht w ca (by omega) cc
      · exact carry22 a b p q t h0' g0' hs hp hq ht w ca (by omega) (by omega)
  · by_cases cb : 64 ≤ b
    · by_cases cc : 64 ≤ a + (b - 64 * q)
      · exact carry31 a b p q t h0' g0' hs hp hq ht w (by omega) cb cc
      · exact carry32 a b p q t h0' g0' hs hp hq ht w (by omega) cb (by omega)
    · by_cases cc : 64 ≤ a + b
      · exact carry41 a b p q t h0' g0' hs hp hq ht w (by omega) (by omega) cc
      · exact carry42 a b p q t h0' g0' hs hp hq ht w (by omega) (by omega) (by omega)
end Go.Proofs.Qxb6631277aFmt
