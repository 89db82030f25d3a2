/-
  math/bits.Div64 by ten (function 9), words (8), idOf (10), ZZnewID (5): seat b6632216a.
-/
import Derived.Test.Qxb6632216aRows
import Derived.WalkKit
import Derived.WalkSpells
import Derived.WalkLawsBesides
import Derived.ProofKit
import Derived.RowKit3
import Derived.Deep.QuietTactic
import Derived.BigQuiet
import Derived.Handy
import Derived.Test.Qxb6632216aPlain
namespace Go.Proofs.Qxb6632216a
open Go.RowKit
set_option linter.unusedVariables false

set_option maxRecDepth 100000 in
set_option maxHeartbeats 400000 in
theorem lead10 (w : World) :
    Calls Try.prog 11 #[.int .u64 10] w fun e w' => e = .returned (.int .i64 60) ∧ w' = w := by
  go_enter Try.func11, Try.ntmps11
  go_wp2
  go_ret
  exact ⟨by kernel_rfl, rfl⟩

set_option maxHeartbeats 400000 in
theorem div_zero (lo : Int) (h0 : 0 ≤ lo) (h1 : lo ≤ 18446744073709551615) (w : World) :
    Calls Try.prog 9 #[.int .u64 0, .int .u64 lo, .int .u64 10] w fun e w' => e = .returned (.tuple #[.int .u64 (lo / 10), .int .u64 (lo % 10)]) ∧ ∃ n, w' = w.drewN n := by
  go_enter Try.func9, Try.ntmps9
  go_wp2
  go_quiet (fail)
  go_wp2
  go_ret2
  exact ⟨rfl, _, rfl⟩

set_option maxHeartbeats 400000 in
theorem div_pos (hi lo u v : Int) (g0 : 0 < hi) (g1 : hi < 10) (h0 : 0 ≤ lo) (h1 : lo ≤ 18446744073709551615)
    (u0 : 0 ≤ u) (u1 : u < 11529215046068469760) (v0 : 0 ≤ v) (v1 : v ≤ 18446744073709551615) (x z : Int) (x0 : 0 ≤ x) (x1 : x < 11529215046068469760) (z0 : 0 ≤ z) (z1 : z ≤ 18446744073709551615)
    (hu : bits .or .u64 (hi * 1152921504606846976) (lo / 16) = u) (hv : IntKind.u64.wrap (lo * 1152921504606846976) = v) (hy : bits .and .u64 11529215046068469760 4294967295 = 0) (hv2 : bits .and .u64 v 4294967295 = 0)
    (hx : IntKind.u64.wrap (IntKind.u64.wrap (IntKind.u64.wrap (u * 4294967296) + v / 4294967296) - IntKind.u64.wrap (u / 2684354560 * 11529215046068469760)) = x)
    (hz1 : IntKind.u64.wrap (IntKind.u64.wrap (IntKind.u64.wrap (x * 4294967296)) - IntKind.u64.wrap (x / 2684354560 * 11529215046068469760)) = z) (w : World) :
    Calls Try.prog 9 #[.int .u64 hi, .int .u64 lo, .int .u64 10] w fun e w' => e = .returned (.tuple #[.int .u64 (u / 2684354560 * 4294967296 + x / 2684354560), .int .u64 (z / 1152921504606846976)]) ∧ w' = w := by
  have hz : (hi == 0) = false := by rw [beq_eq_false_iff_ne]; omega
  have hq1 : u / 2684354560 < 4294967296 := by omega
  have hq2 : x / 2684354560 < 4294967296 := by omega
  go_enter Try.func9, Try.ntmps9
  go_wp2_with fail
  refine (lead10 _).mono ?_
  rintro e w1 ⟨rfl, rfl⟩
  go_wp2_with fail
  refine wp_loop_rounds 1 ?_
  rw [rounds_succ]
  go_wp2_with fail
  refine wp_loop_rounds 1 ?_
  rw [rounds_succ]
  go_wp2
  go_ret2
  exact ⟨rfl, rfl⟩

/-- math/bits.Div64 by ten, the high word below ten. -/
theorem div10 (hi lo : Int) (g0 : 0 ≤ hi) (g1 : hi < 10) (h0 : 0 ≤ lo) (h1 : lo ≤ 18446744073709551615) (w : World) :
    Calls Try.prog 9 #[.int .u64 hi, .int .u64 lo, .int .u64 10] w fun e w' => e = .returned (.tuple #[.int .u64 ((hi * 18446744073709551616 + lo) / 10), .int .u64 ((hi * 18446744073709551616 + lo) % 10)]) ∧ ∃ n, w' = w.drewN n := by
  by_cases hz : hi = 0
  · subst hz
    have e : (0 * 18446744073709551616 + lo : Int) = lo := by omega
    rw [e]
    exact div_zero lo h0 h1 w
  · have eu := or60 hi lo g0 g1 h0 h1
    rw [ar_u hi lo g0 g1 h0 h1] at eu
    have ev : IntKind.u64.wrap (lo * 1152921504606846976) = (hi * 18446744073709551616 + lo) % 16 * 1152921504606846976 := by
      rw [IntKind.wrap_u64]; exact ar_v hi lo h0 h1
    have hN0 : 0 ≤ hi * 18446744073709551616 + lo := by omega
    have hN1 : hi * 18446744073709551616 + lo < 184467440737095516160 := by omega
    generalize hi * 18446744073709551616 + lo = N at *
    have ex := ar_x N hN0 hN1
    have ez := ar_z (N % 42949672960) (by omega) (by omega)
    simp only [← IntKind.wrap_u64] at ex ez
    have h2 : bits .and .u64 (N % 16 * 1152921504606846976) 4294967295 = 0 := by
      rw [and32 _ (by omega) (by omega)]; omega
    refine (div_pos hi lo (N / 16) (N % 16 * 1152921504606846976) (by omega) g1 h0 h1 (by omega) (by omega) (by omega) (by omega) (N % 42949672960 * 268435456) (N % 42949672960 % 10 * 1152921504606846976) (by omega) (by omega) (by omega) (by omega) eu ev (by rw [and32 _ (by decide) (by decide)]; decide) h2 ex ez w).mono ?_
    rintro e w' ⟨rfl, rfl⟩
    refine ⟨?_, 0, rfl⟩
    have e1 : N / 16 / 2684354560 * 4294967296 + N % 42949672960 * 268435456 / 2684354560 = N / 10 := by omega
    have e2 : N % 42949672960 % 10 * 1152921504606846976 / 1152921504606846976 = N % 10 := by omega
    rw [e1, e2]

theorem words_any (a b c : Int) (w : World) :
    Calls Try.prog 8 #[.agg #[.int .u64 a, .int .u64 b, .int .u64 c]] w fun e w' => e = .returned (.agg #[.int .u64 a, .int .u64 b, .int .u64 c]) ∧ ∃ c1 c2 : Array Value, w' = (w.alloc (.cells c1 24)).alloc (.cells c2 35) := by
  go_enter Try.func8, Try.ntmps8
  go_wp2
  go_returns
  exact ⟨rfl, _, _, rfl⟩
theorem idOf_any (a b c : Int) (w : World) :
    Calls Try.prog 10 #[.agg #[.int .u64 a, .int .u64 b, .int .u64 c]] w fun e w' => e = .returned (.agg #[.int .u64 a, .int .u64 b, .int .u64 c]) ∧ ∃ c1 c2 : Array Value, w' = (w.alloc (.cells c1 35)).alloc (.cells c2 24) := by
  go_enter Try.func10, Try.ntmps10
  go_wp2
  go_returns
  exact ⟨rfl, _, _, rfl⟩
theorem newID_any (a b c : Int) (w : World) :
    Calls Try.prog 5 #[.int .u64 a, .int .u64 b, .int .u64 c] w fun e w' => e = .returned (.agg #[.int .u64 a, .int .u64 b, .int .u64 c]) ∧ ∃ c1 : Array Value, w' = w.alloc (.cells c1 24) := by
  go_enter Try.func5, Try.ntmps5
  go_wp2
  go_returns
  exact ⟨rfl, _, rfl⟩
end Go.Proofs.Qxb6632216a
