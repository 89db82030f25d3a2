/-
  THE WALKS of the two laws of seat b6631277aF: NewLimiter (function 5), ZZrate (6), ZZpiece (7), pieceIsRight (8); the laws (3, 4).
-/
import Derived.Test.Qxb6631277aFmtRows
import Derived.WalkKit
import Derived.WalkSpells
import Derived.WalkLawsBesides
import Derived.ProofKit
import Derived.RowKit3
namespace Go.Proofs.Qxb6631277aFmt
open Go.RowKit

/-- p is the piece of the rate r. -/
structure IsP (r p : Int) : Prop where
  lo : 1 ≤ p
  hi : p ≤ 144115188075855871
  small : r < 64 → p = 1
  great : 64 ≤ r → 64 * p ≤ r ∧ r - 64 * p < 64

theorem isP_ex (r : Int) (h0 : 0 ≤ r) (h1 : r ≤ 9223372036854775807) : ∃ p, IsP r p := by
  by_cases h : r < 64
  · exact ⟨1, by omega, by omega, by omega, by omega⟩
  · exact ⟨r / 64, by omega, by omega, by omega, by omega⟩

theorem ret_ptr_mk {w w' : World} {e : Ending} {v : Value} {cs cs' : Array Value} (he : e = .returned v) (hw : w' = w.alloc (.cells cs 42)) (hc : cs = cs') : e = .returned v ∧ w' = w.alloc (.cells cs' 42) := ⟨he, by rw [hw, hc]⟩

/-- The cells of a new Limiter. -/
def lim (r p : Int) : Array Value := #[.int .i64 r, .int .i64 p, .int .i32 0, .int .u32 0, .int .u64 0, .int .i64 0, .pointer .none, .int .i64 0, .float .f64 0, .int .u64 0, .int .i64 0, .pointer .none]

set_option maxHeartbeats 400000 in
theorem newlim (r p : Int) (h0 : 0 ≤ r) (h1 : r ≤ 9223372036854775807) (hp : IsP r p) (w : World) :
    Calls Tryf.prog 5 #[.int .i64 r] w fun e w' => e = .returned (.pointer (some ⟨w.heap.size, 0, none⟩)) ∧ w' = w.alloc (.cells (lim r p) 42) := by
  obtain ⟨a, b, c, d⟩ := hp
  have hn : ¬ r < 0 := by omega
  by_cases h : 1 < r / 64
  · have e : Hid (r / 64 = p) := show r / 64 = p by omega
    clear a b c d
    go_enter Tryf.func5, Tryf.ntmps5
    go_wp2
    go_ret
    rw [e.out]
    exact ⟨rfl, rfl⟩
  · have e : Hid (1 = p) := show 1 = p by omega
    clear a b c d
    go_enter Tryf.func5, Tryf.ntmps5
    go_wp2
    go_ret
    rw [← e.out]
    exact ⟨rfl, rfl⟩

theorem zzrate (b : Nat) (r : Int) (w : World) (h : w.cell? ⟨b, 0, none⟩ = some (.int .i64 r)) :
    Calls Tryf.prog 6 #[.pointer (some ⟨b, 0, none⟩)] w fun e w' => e = .returned (.int .i64 r) ∧ w' = w := by
  go_enter Tryf.func6, Tryf.ntmps6
  go_wp2
  go_ret
  exact ⟨rfl, rfl⟩

theorem zzpiece (b : Nat) (p : Int) (w : World) (h : w.cell? ⟨b, 1, none⟩ = some (.int .i64 p)) :
    Calls Tryf.prog 7 #[.pointer (some ⟨b, 0, none⟩)] w fun e w' => e = .returned (.int .i64 p) ∧ w' = w := by
  go_enter Tryf.func7, Tryf.ntmps7
  go_wp2
  go_ret
  exact ⟨rfl, rfl⟩

set_option maxHeartbeats 400000 in
theorem right (r p : Int) (h0 : 0 ≤ r) (h1 : r ≤ 9223372036854775807) (hp : IsP r p) (w : World) :
    Calls Tryf.prog 8 #[.int .i64 r, .int .i64 p] w fun e w' => e = .returned (.bool true) ∧ w' = w := by
  obtain ⟨a, b, c, d⟩ := hp
  by_cases h : r < 64
  · obtain rfl := c h
    clear d
    go_enter Tryf.func8, Tryf.ntmps8
    go_wp2
    go_ret
    exact ⟨rfl, rfl⟩
  · obtain ⟨d1, d2⟩ := d (by omega)
    clear c
    go_enter Tryf.func8, Tryf.ntmps8
    go_wp2
    go_ret
    exact ⟨rfl, rfl⟩
end Go.Proofs.Qxb6631277aFmt
