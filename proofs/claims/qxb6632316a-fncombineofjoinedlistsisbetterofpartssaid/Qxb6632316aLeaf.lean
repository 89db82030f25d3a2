/-
  THE CONTRACTS of weightOf (9), value (16), outranks (14), rankCmp (15), seat b6632316a.
-/
import Derived.Test.Qxb6632316aBase
import Derived.Deep.QuietTactic
import Derived.BigQuiet
namespace Go.Proofs.Qxb6632316a
open Go.RowKit
set_option linter.unusedVariables false

theorem ret_int {k : IntKind} {a b : Int} (h : a = b) : Ending.returned (.int k a) = .returned (.int k b) := by rw [h]
theorem ret_bool {a b : Bool} (h : a = b) : Ending.returned (.bool a) = .returned (.bool b) := by rw [h]

theorem weight (s : ByteArray) (w : World) : Calls Try.prog 9 #[.string s] w fun e w' => e = .returned (.int .i64 (wt s)) ∧ w' = w := by
  cases h : (s.toList == [98, 108, 111, 99, 107])
  · cases h2 : (s.toList == [97, 108, 108, 111, 119])
    · go_enter Try.func9, Try.ntmps9
      go_wp2
      go_ret
      exact ⟨ret_int (by simp [wt, h, h2]), rfl⟩
    · go_enter Try.func9, Try.ntmps9
      go_wp2
      go_ret
      exact ⟨ret_int (by simp [wt, h, h2]), rfl⟩
  · go_enter Try.func9, Try.ntmps9
    go_wp2
    go_ret
    exact ⟨ret_int (by simp [wt, h]), rfl⟩

theorem value (s : ByteArray) (w : World) : Calls Try.prog 16 #[.string s] w fun e w' => e = .returned (.int .i64 (wt s)) ∧ w' = w := by
  cases h : (s.toList == [98, 108, 111, 99, 107])
  · cases h2 : (s.toList == [97, 108, 108, 111, 119])
    · go_enter Try.func16, Try.ntmps16
      go_wp2
      go_ret
      exact ⟨ret_int (by simp [wt, h, h2]), rfl⟩
    · go_enter Try.func16, Try.ntmps16
      go_wp2
      go_ret
      exact ⟨ret_int (by simp [wt, h, h2]), rfl⟩
  · go_enter Try.func16, Try.ntmps16
    go_wp2
    go_ret
    exact ⟨ret_int (by simp [wt, h]), rfl⟩

set_option maxHeartbeats 400000 in
theorem outranks (x y : Rec) (w : World) : Calls Try.prog 14 #[.agg #[.string x.act, .int .i64 x.pri, .string x.id], .agg #[.string y.act, .int .i64 y.pri, .string y.id]] w fun e w' =>
    e = .returned (.bool (outr x y)) ∧ ∃ n, w' = ((w.alloc (.cells #[.string x.act, .int .i64 x.pri, .string x.id] 39)).alloc (.cells #[.string y.act, .int .i64 y.pri, .string y.id] 39)).drewN n := by
  by_cases hp : x.pri = y.pri
  · have hpb : (x.pri != y.pri) = false := by simp [hp]
    by_cases hw : wt x.act = wt y.act
    · have hwb : (wt x.act != wt y.act) = false := by simp [hw]
      have ho : outr x y = Op.bytesLess x.act.toList y.act.toList := by rw [outr, if_pos hp, if_pos hw]
      rw [ho]
      clear ho hp hw
      generalize x.act = xa at *
      generalize x.pri = xp at *
      generalize x.id = xi at *
      generalize y.act = ya at *
      generalize y.pri = yp at *
      generalize y.id = yi at *
      go_enter Try.func14, Try.ntmps14
      go_wp2_with fail
      go_quiet ((go_at_call 16; exact Calls.quiet_of_same (value _ _)))
      go_wp2
      go_ret
      exact ⟨rfl, _, rfl⟩
    · have hwb : (wt x.act != wt y.act) = true := by simp [hw]
      have ho : outr x y = decide (wt y.act < wt x.act) := by rw [outr, if_pos hp, if_neg hw]
      rw [ho]
      clear ho hp hw
      generalize x.act = xa at *
      generalize x.pri = xp at *
      generalize x.id = xi at *
      generalize y.act = ya at *
      generalize y.pri = yp at *
      generalize y.id = yi at *
      go_enter Try.func14, Try.ntmps14
      go_wp2_with fail
      go_quiet ((go_at_call 16; exact Calls.quiet_of_same (value _ _)))
      go_wp2_with fail
      have k0 : (((w.alloc (.cells #[.string xa, .int .i64 xp, .string xi] 39)).alloc (.cells #[.string ya, .int .i64 yp, .string yi] 39)).drewN nq).cell? ⟨w.heap.size, 0, none⟩ = some (.string xa) := by simp [go_sem]
      have k1 : (((w.alloc (.cells #[.string xa, .int .i64 xp, .string xi] 39)).alloc (.cells #[.string ya, .int .i64 yp, .string yi] 39)).drewN nq).cell? ⟨w.heap.size + 1, 0, none⟩ = some (.string ya) := by simp [go_sem]
      generalize hw5 : ((w.alloc (.cells #[.string xa, .int .i64 xp, .string xi] 39)).alloc (.cells #[.string ya, .int .i64 yp, .string yi] 39)).drewN nq = w5 at *
      have HW5 : Hid (((w.alloc (.cells #[.string xa, .int .i64 xp, .string xi] 39)).alloc (.cells #[.string ya, .int .i64 yp, .string yi] 39)).drewN nq = w5) := hw5
      clear hw5
      go_quiet ((go_at_call 16; exact Calls.quiet_of_same (value _ _)))
      go_wp2
      go_ret
      exact ⟨rfl, _, by rw [← HW5.out, World.drewN_drewN]⟩
  · have hpb : (x.pri != y.pri) = true := by simp [hp]
    have ho : outr x y = decide (x.pri < y.pri) := by rw [outr, if_neg hp]
    rw [ho]
    clear ho hp
    generalize x.act = xa at *
    generalize x.pri = xp at *
    generalize x.id = xi at *
    generalize y.act = ya at *
    generalize y.pri = yp at *
    generalize y.id = yi at *
    go_enter Try.func14, Try.ntmps14
    go_wp2
    go_ret
    exact ⟨rfl, 0, rfl⟩

/-- What rankCmp answers. -/
def rnk (x y : Rec) : Int := if outr x y = true then -1 else if outr y x = true then 1 else 0

theorem rnk_lt {x y : Rec} (h : outr x y = true) : rnk x y = -1 := by rw [rnk, if_pos h]
theorem rnk_gt {x y : Rec} (h : outr y x = true) : rnk x y = 1 := by
  have h2 : outr x y = false := by
    cases h3 : outr x y
    · rfl
    · have := outr_trans h3 h
      rw [outr_irrefl] at this
      cases this
  rw [rnk, h2, h]; rfl
theorem rnk_eq {x y : Rec} (h : sameB x y = true) : rnk x y = 0 := by rw [rnk, outr_of_same h, outr_of_same (same_symm h)]; rfl

set_option maxHeartbeats 1000000 in
theorem rankCmp (x y : Rec) (w : World) : Calls Try.prog 15 #[.agg #[.string x.act, .int .i64 x.pri, .string x.id], .agg #[.string y.act, .int .i64 y.pri, .string y.id]] w fun e w' =>
    e = .returned (.int .i64 (rnk x y)) ∧ w' = (w.alloc (.cells #[.string x.act, .int .i64 x.pri, .string x.id] 31)).alloc (.cells #[.string y.act, .int .i64 y.pri, .string y.id] 31) := by
  rcases Int.lt_trichotomy x.pri y.pri with hp | hp | hp
  · have hr : rnk x y = -1 := rnk_lt ((outr_of x y).2 (.inl hp))
    rw [hr]
    have hpb : (x.pri != y.pri) = true := by rw [bne_iff_ne]; omega
    clear hr
    generalize x.act = xa at *
    generalize x.pri = xp at *
    generalize x.id = xi at *
    generalize y.act = ya at *
    generalize y.pri = yp at *
    generalize y.id = yi at *
    go_enter Try.func15, Try.ntmps15
    go_wp2
    go_ret
    exact ⟨rfl, rfl⟩
  · have hpb : (x.pri != y.pri) = false := by simp [hp]
    rcases Int.lt_trichotomy (wt x.act) (wt y.act) with hw | hw | hw
    · have hr : rnk x y = 1 := rnk_gt ((outr_of y x).2 (.inr ⟨hp.symm, .inl hw⟩))
      rw [hr]
      have hwb : (wt x.act != wt y.act) = true := by rw [bne_iff_ne]; omega
      clear hr hp
      generalize x.act = xa at *
      generalize x.pri = xp at *
      generalize x.id = xi at *
      generalize y.act = ya at *
      generalize y.pri = yp at *
      generalize y.id = yi at *
      go_enter Try.func15, Try.ntmps15
      go_wp2_with (go_at_call 9; refine (weight _ _).mono ?_; rintro e w' ⟨rfl, rfl⟩)
      go_ret
      exact ⟨rfl, rfl⟩
    · have hwb : (wt x.act != wt y.act) = false := by simp [hw]
      rcases less_total x.act.toList y.act.toList with hl | hl | hl
      · have hr : rnk x y = -1 := rnk_lt ((outr_of x y).2 (.inr ⟨hp, .inr ⟨hw, hl⟩⟩))
        rw [hr]
        have hne : (x.act.toList == y.act.toList) = false := by
          cases h : (x.act.toList == y.act.toList)
          · rfl
          · rw [beq_iff_eq] at h
            rw [h, less_irrefl] at hl
            cases hl
        clear hr hp hw
        generalize x.act = xa at *
        generalize x.pri = xp at *
        generalize x.id = xi at *
        generalize y.act = ya at *
        generalize y.pri = yp at *
        generalize y.id = yi at *
        go_enter Try.func15, Try.ntmps15
        go_wp2_with (go_at_call 9; refine (weight _ _).mono ?_; rintro e w' ⟨rfl, rfl⟩)
        go_ret
        exact ⟨rfl, rfl⟩
      · have hr : rnk x y = 0 := rnk_eq ((same_iff x y).2 ⟨hl, hp⟩)
        rw [hr]
        have hne : (x.act.toList == y.act.toList) = true := by simp [hl]
        clear hr hp hw hl
        generalize x.act = xa at *
        generalize x.pri = xp at *
        generalize x.id = xi at *
        generalize y.act = ya at *
        generalize y.pri = yp at *
        generalize y.id = yi at *
        go_enter Try.func15, Try.ntmps15
        go_wp2_with (go_at_call 9; refine (weight _ _).mono ?_; rintro e w' ⟨rfl, rfl⟩)
        go_ret
        exact ⟨rfl, rfl⟩
      · have hr : rnk x y = 1 := rnk_gt ((outr_of y x).2 (.inr ⟨hp.symm, .inr ⟨hw.symm, hl⟩⟩))
        rw [hr]
        have hne : (x.act.toList == y.act.toList) = false := by
          cases h : (x.act.toList == y.act.toList)
          · rfl
          · rw [beq_iff_eq] at h
            rw [h, less_irrefl] at hl
            cases hl
        have hl2 : Op.bytesLess x.act.toList y.act.toList = false := by
          cases h : Op.bytesLess x.act.toList y.act.toList
          · rfl
          · have := less_trans _ _ _ h hl
            rw [less_irrefl] at this
            cases this
        clear hr hp hw hl
        generalize x.act = xa at *
        generalize x.pri = xp at *
        generalize x.id = xi at *
        generalize y.act = ya at *
        generalize y.pri = yp at *
        generalize y.id = yi at *
        go_enter Try.func15, Try.ntmps15
        go_wp2_with (go_at_call 9; refine (weight _ _).mono ?_; rintro e w' ⟨rfl, rfl⟩)
        go_ret
        exact ⟨rfl, rfl⟩
    · have hr : rnk x y = -1 := rnk_lt ((outr_of x y).2 (.inr ⟨hp, .inl hw⟩))
      rw [hr]
      have hwb : (wt x.act != wt y.act) = true := by rw [bne_iff_ne]; omega
      clear hr hp
      generalize x.act = xa at *
      generalize x.pri = xp at *
      generalize x.id = xi at *
      generalize y.act = ya at *
      generalize y.pri = yp at *
      generalize y.id = yi at *
      go_enter Try.func15, Try.ntmps15
      go_wp2_with (go_at_call 9; refine (weight _ _).mono ?_; rintro e w' ⟨rfl, rfl⟩)
      go_ret
      exact ⟨rfl, rfl⟩
  · have hr : rnk x y = 1 := rnk_gt ((outr_of y x).2 (.inl hp))
    rw [hr]
    have hpb : (x.pri != y.pri) = true := by rw [bne_iff_ne]; omega
    clear hr
    generalize x.act = xa at *
    generalize x.pri = xp at *
    generalize x.id = xi at *
    generalize y.act = ya at *
    generalize y.pri = yp at *
    generalize y.id = yi at *
    go_enter Try.func15, Try.ntmps15
    go_wp2
    go_ret
    exact ⟨rfl, rfl⟩
end Go.Proofs.Qxb6632316a
