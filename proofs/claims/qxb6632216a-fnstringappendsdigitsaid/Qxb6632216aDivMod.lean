/-
  (ID).divMod by ten (function 7), seat b6632216a.
-/
import Derived.Test.Qxb6632216aDiv
import Derived.Below
namespace Go.Proofs.Qxb6632216a
open Go.RowKit
set_option linter.unusedVariables false

theorem below_drewN {B : Nat} {a w : World} (h : Below B a w) (n : Nat) : Below B a (w.drewN n) := h.trans ⟨rfl, rfl, rfl, Nat.le_refl _, fun _ _ => rfl⟩

set_option maxHeartbeats 1000000 in
theorem divMod_any (a b c : Int) (a0 : 0 ≤ a) (a1 : a ≤ 18446744073709551615) (b0 : 0 ≤ b) (b1 : b ≤ 18446744073709551615) (c0 : 0 ≤ c) (c1 : c ≤ 18446744073709551615)
    (q1 r1 q2 r2 q3 r3 : Int) (w : World) (e1 : Hid ((0 * 18446744073709551616 + c) / 10 = q1)) (f1 : Hid ((0 * 18446744073709551616 + c) % 10 = r1)) (e2 : Hid ((r1 * 18446744073709551616 + b) / 10 = q2)) (f2 : Hid ((r1 * 18446744073709551616 + b) % 10 = r2)) (e3 : Hid ((r2 * 18446744073709551616 + a) / 10 = q3)) (f3 : Hid ((r2 * 18446744073709551616 + a) % 10 = r3)) (k0 : 0 ≤ r1) (k1 : r1 < 10) (m0 : 0 ≤ r2) (m1 : r2 < 10) :
    Calls Try.prog 7 #[.agg #[.int .u64 a, .int .u64 b, .int .u64 c], .int .u64 10] w fun e w' => e = .returned (.tuple #[.agg #[.int .u64 q3, .int .u64 q2, .int .u64 q1], .int .u64 r3]) ∧ Below w.heap.size w w' := by
  go_enter Try.func7, Try.ntmps7
  go_wp2_with fail
  refine (words_any a b c _).mono ?_
  rintro e w1 ⟨rfl, o1, o2, rfl⟩
  go_wp2_with fail
  refine wp_loop_rounds 4 ?_
  rw [rounds_succ]
  go_wp2_with fail
  refine (div10 0 c (by decide) (by decide) c0 c1 _).mono ?_
  rintro e w1 ⟨rfl, n1, rfl⟩
  rw [e1.out, f1.out]
  go_wp2_with fail
  rw [rounds_succ]
  go_wp2_with fail
  refine (div10 r1 b k0 k1 b0 b1 _).mono ?_
  rintro e w1 ⟨rfl, n2, rfl⟩
  rw [e2.out, f2.out]
  go_wp2_with fail
  rw [rounds_succ]
  go_wp2_with fail
  refine (div10 r2 a m0 m1 a0 a1 _).mono ?_
  rintro e w1 ⟨rfl, n3, rfl⟩
  rw [e3.out, f3.out]
  go_wp2_with fail
  rw [rounds_succ]
  go_wp2_with fail
  refine (idOf_any q3 q2 q1 _).mono ?_
  rintro e w1 ⟨rfl, o3, o4, rfl⟩
  go_wp2
  go_returns
  refine ⟨rfl, ?_⟩
  repeat' (first | (with_reducible exact Below.refl _ _) | (with_reducible refine below_drewN ?_ _) | (with_reducible refine Below.drew ?_) | (with_reducible refine Below.alloc ?_ ?_ _) | (with_reducible refine Below.setCell ?_ ?_ _) | (simp; done) | (simp; omega))

/-- divMod by ten, in numbers. -/
theorem divMod10 {a b c V : Int} (h : Words a b c V) {a' b' c' : Int} (h' : Words a' b' c' (V / 10)) (w : World) :
    Calls Try.prog 7 #[.agg #[.int .u64 a, .int .u64 b, .int .u64 c], .int .u64 10] w fun e w' => e = .returned (.tuple #[.agg #[.int .u64 a', .int .u64 b', .int .u64 c'], .int .u64 (V % 10)]) ∧ Below w.heap.size w w' := by
  obtain ⟨d1, d2, d3, d4⟩ := words_div h h'
  have z : (0 * 18446744073709551616 + c : Int) = c := by omega
  have := divMod_any a b c h.a0 h.a1 h.b0 h.b1 h.c0 h.c1 c' (c % 10) b' ((c % 10 * 18446744073709551616 + b) % 10) a' (V % 10) w (by rw [z]; exact d1) (by rw [z]; exact rfl) d2 rfl d3 d4 (by omega) (by omega) (by omega) (by omega)
  exact this
end Go.Proofs.Qxb6632216a
