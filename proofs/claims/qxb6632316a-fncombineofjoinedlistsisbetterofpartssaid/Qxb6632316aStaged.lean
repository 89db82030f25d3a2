/-
  THE WALK of FnCombineMatchesStagedSelection (function 3), seat b6632316a.
-/
import Derived.Test.Qxb6632316aCombine
import Derived.Test.Qxb6632316aStage
namespace Go.Proofs.Qxb6632316a
open Go.RowKit
set_option linter.unusedVariables false

theorem Recs.later {w w3 : World} {a : Option Addr} {n : Nat} {rs : List Rec} (h : Recs w a n rs) (hb : Below w.heap.size w w3) : Recs w3 a n rs := by
  refine ⟨h.hlen, h.hle, fun h0 => ?_⟩
  obtain ⟨b, off, e, hlt, hc⟩ := h.hat h0
  have := hb.size
  refine ⟨b, off, e, by omega, fun i hi => ?_⟩
  obtain ⟨h1, h2, h3⟩ := hc i hi
  exact ⟨by rw [hb.cell (p := ⟨b, off + i * 3, none⟩) hlt]; exact h1, by rw [hb.cell (p := ⟨b, off + i * 3 + 1, none⟩) hlt]; exact h2, by rw [hb.cell (p := ⟨b, off + i * 3 + 2, none⟩) hlt]; exact h3⟩

/-- The records of a row that toPolicy made. -/
theorem recs_of_row {w : World} {B len : Nat} {rs : List Rec} (h : w.rowIs B 39 (len * 3) (rc rs)) (hl : rs.length = len) (hle : len ≤ 9223372036854775807) : Recs w (some ⟨B, 0, none⟩) len rs := by
  refine ⟨hl, hle, fun h0 => ⟨B, 0, rfl, h.lt, fun i hi => ?_⟩⟩
  have e := el_lt rs i hi
  refine ⟨?_, ?_, ?_⟩
  · rw [Nat.zero_add, h.cell (i := i * 3) (by omega), rc_0, e]
  · rw [Nat.zero_add, h.cell (i := i * 3 + 1) (by omega), rc_1, e]
  · rw [Nat.zero_add, h.cell (i := i * 3 + 2) (by omega), rc_2, e]

/-- What ToPol gives: a slice with the same records. -/
theorem ToPol.out {rs : List Rec} {len : Nat} {w : World} {e : Ending} {w' : World} (h : ToPol rs len w e w') (hl : rs.length = len) (hle : len ≤ 9223372036854775807) : ∃ a', e = .returned (.slice a' len len) ∧ Recs w' a' len rs ∧ Below w.heap.size w w' := by
  rcases h with ⟨rfl, rfl, rfl⟩ | ⟨rfl, h1, h2, h3⟩
  · exact ⟨none, rfl, ⟨hl, hle, fun h => by omega⟩, Below.refl _ _⟩
  · exact ⟨_, rfl, recs_of_row h1 hl hle, h3⟩

/-- The winners as the walk sees them. -/
structure Win (w : World) (v : Value) (ns : List Nat) : Prop where
  form : ∃ a cap, v = .slice a ns.length cap ∧ (0 < ns.length → ∃ g, a = some ⟨g, 0, none⟩ ∧ ∀ i (h : i < ns.length), w.cell? ⟨g, i, none⟩ = some (.int .i64 (ns[i] : Int)))

theorem win_of {w : World} {base : Nat} {v : Value} {ns : List Nat} (h : w.ownsRow base 3 1 v ns.length (iv ns)) : Win w v ns := by
  obtain ⟨_, h2⟩ := h
  rcases h2 with ⟨rfl, h0⟩ | ⟨g, cap, cur, rfl, _, hg, _, _, _, htake⟩
  · exact ⟨none, 0, by rw [h0], fun h => by omega⟩
  · refine ⟨_, cap, rfl, fun _ => ⟨g, rfl, fun i hi => ?_⟩⟩
    have h0 : cur[i]? = some (.int .i64 (ns[i] : Int)) := by
      have := congrArg (fun l : List Value => l[i]?) htake
      simp only [Nat.mul_one, iv, List.getElem?_map, List.getElem?_eq_getElem hi, Option.map_some] at this
      rw [List.getElem?_take_of_lt hi] at this
      simpa using this
    simp [World.cell?, hg, h0]

set_option maxRecDepth 100000 in
set_option maxHeartbeats 2000000 in
theorem staged_any (a : Option Addr) (len cap : Nat) (rs : List Rec) (w : World) (hs : Recs w a len rs) (hl : len ≤ 1048576) :
    Calls Try.prog 3 #[.slice a len cap] w fun e w' => e = .returned (.bool true) ∧ Below w.heap.size w w' := by
  go_enter Try.func3, Try.ntmps3
  go_wp2_with fail
  refine (zz5 a len cap rs _ hs).mono ?_
  rintro e w ⟨(rfl | ⟨rfl, _⟩), rfl⟩
  · go_wp2
    go_ret
    exact ⟨rfl, Below.refl _ _⟩
  have hb1 : Below w.heap.size w (w.alloc (.cells #[.int .i64 0] 3)) := (Below.refl _ _).alloc (Nat.le_refl _) _
  have hr1 : (w.alloc (.cells #[.int .i64 0] 3)).rowIs w.heap.size 3 1 (fun _ => .int .i64 0) := World.rowIs_alloc w #[.int .i64 0] 3 (fun _ => .int .i64 0) (fun i hi => by simp at hi; subst hi; rfl)
  have hs1 := hs.later hb1
  have hat : ∀ b off, a = some ⟨b, off, none⟩ → 0 < len → b < w.heap.size := by
    intro b off e h0
    obtain ⟨b', off', e', hlt, _⟩ := hs.hat (by omega)
    rw [e] at e'
    simp at e'
    omega
  go_wp2_with fail
  refine (sizeOK a len cap rs w.heap.size 0 _ hs1 hr1 (by decide) (by decide) hat).mono ?_
  rintro e w2 ⟨r, n, rfl, hn0, hn1, _, _, hb2, _⟩
  have hbw2 : Below w.heap.size w w2 := hb1.trans hb2
  clear hb1 hr1 hs1 hat hb2
  cases r
  · go_wp2
    go_ret
    exact ⟨rfl, hbw2⟩
  go_wp2_with fail
  refine (toPolicy a len cap rs _ (hs.later hbw2) hl).mono ?_
  rintro e w3 hT
  obtain ⟨a', rfl, hR3, hb3⟩ := hT.out hs.hlen hs.hle
  have hbw3 : Below w.heap.size w w3 := hbw2.trans (hb3.mono hbw2.size)
  clear hT hbw2 hb3
  go_wp2_with fail
  refine (combine a' len len rs _ hR3 (by omega)).mono ?_
  rintro e w4 ⟨v, rfl, hown, hb4⟩
  have hbw4 : Below w.heap.size w w4 := hbw3.trans (hb4.mono hbw3.size)
  obtain ⟨ga, gcap, rfl, hwin⟩ := (win_of hown).form
  have hR := hs.later hbw4
  clear hown hb4 hbw3 hR3 hs
  have hlen := hR.hlen
  by_cases hz : len = 0
  · have hz' : ((len : Int) == 0) = true := by rw [beq_iff_eq]; omega
    have hcz : (((comb rs len).length : Int) == 0) = true := by rw [beq_iff_eq, hz]; rfl
    clear hz hwin hR hlen
    go_wp2
    go_ret
    exact ⟨rfl, hbw4⟩
  have hz' : ((len : Int) == 0) = false := by rw [beq_eq_false_iff_ne]; omega
  obtain ⟨b, off, rfl, hb, hc⟩ := hR.hat (by omega)
  have hcell : ∀ i, i < len → w4.cell? ⟨b, off + i * 3, none⟩ = some (.string (el rs i).act) ∧ w4.cell? ⟨b, off + i * 3 + 1, none⟩ = some (.int .i64 (el rs i).pri) := by
    intro i hi
    obtain ⟨h1, h2, _⟩ := hc i (by omega)
    rw [el_lt rs i (by omega)]
    exact ⟨h1, h2⟩
  have HL : Hid (rs.length = len) := hlen
  have c0 := (hcell 0 (by omega)).2
  simp only [Nat.zero_mul, Nat.add_zero] at c0
  have hlp : (0 : Int) < (len : Int) := by omega
  have hlp2 : 0 < len := by omega
  clear hc hR hlen hb hz
  go_wp2_with fail
  go_loop [6, 7] (fun x i => ∃ k : Nat, 1 ≤ k ∧ k ≤ len ∧ i = .int .i64 k ∧ ∃ m : Int, x = .int .i64 m ∧ IsMin rs k m) (fun _ i => len - (intOf i).toNat)
  case atStart => exact ⟨1, Nat.le_refl _, hlp2, rfl, _, rfl, IsMin.start rs⟩
  case round =>
    obtain ⟨k, hk1, hk, rfl, m, rfl, hm⟩ := hrel
    by_cases hlt : k < len
    · obtain ⟨c0, c1⟩ := hcell k hlt
      have hi1 : (k : Int) < (len : Int) := by omega
      by_cases hmm : (el rs k).pri < m
      · have hnew := hm.new hmm
        clear hm hcell hwin
        generalize (el rs k).pri = q at *
        go_wp2
        go_round
        case rel => exact ⟨k + 1, by omega, by omega, by go_num, _, rfl, hnew⟩
        case measure => simp [intOf]; omega
      · have hnew := hm.keep (by omega)
        clear hm hcell hwin
        generalize (el rs k).pri = q at *
        go_wp2
        go_round
        case rel => exact ⟨k + 1, by omega, by omega, by go_num, _, rfl, hnew⟩
        case measure => simp [intOf]; omega
    · obtain rfl : len = k := by omega
      clear hlt hk hk1 c0
      go_wp2_with fail
      go_loop [8, 9] (fun x i => ∃ k : Nat, k ≤ len ∧ i = .int .i64 k ∧ ∃ c : Int, x = .int .i64 c ∧ IsMax rs m k c) (fun _ i => len - (intOf i).toNat)
      case atStart => exact ⟨0, Nat.zero_le _, rfl, _, rfl, IsMax.start rs m⟩
      case round =>
        obtain ⟨k, hk, rfl, c, rfl, hx⟩ := hrel
        by_cases hlt : k < len
        · obtain ⟨c0, c1⟩ := hcell k hlt
          have hi1 : (k : Int) < (len : Int) := by omega
          by_cases hp : (el rs k).pri = m
          · have hpb : ((el rs k).pri == m) = true := by simp [hp]
            by_cases hw : c < wt (el rs k).act
            · have hnew := hx.new hp hw
              clear hm hx hcell hwin hp
              generalize (el rs k).pri = q at *
              generalize (el rs k).act = s at *
              go_wp2_with (go_at_call 9; refine (weight _ _).mono ?_; rintro e w' ⟨rfl, rfl⟩)
              go_round
              case rel => exact ⟨k + 1, by omega, by go_num, _, rfl, hnew⟩
              case measure => simp [intOf]; omega
            · have hnew := hx.keep (fun _ => by omega)
              clear hm hx hcell hwin hp
              generalize (el rs k).pri = q at *
              generalize (el rs k).act = s at *
              go_wp2_with (go_at_call 9; refine (weight _ _).mono ?_; rintro e w' ⟨rfl, rfl⟩)
              go_round
              case rel => exact ⟨k + 1, by omega, by go_num, _, rfl, hnew⟩
              case measure => simp [intOf]; omega
          · have hpb : ((el rs k).pri == m) = false := by simp [hp]
            have hnew := hx.keep (fun h => absurd h hp)
            clear hm hx hcell hwin hp
            generalize (el rs k).pri = q at *
            generalize (el rs k).act = s at *
            go_wp2_with (go_at_call 9; refine (weight _ _).mono ?_; rintro e w' ⟨rfl, rfl⟩)
            go_round
            case rel => exact ⟨k + 1, by omega, by go_num, _, rfl, hnew⟩
            case measure => simp [intOf]; omega
        · obtain rfl : len = k := by omega
          clear hlt hk
          go_wp2_with fail
          go_loop [10, 11, 12] (fun f x i => ∃ k : Nat, k ≤ len ∧ i = .int .i64 k ∧ ∃ (fd : Bool) (s : ByteArray), f = .bool fd ∧ x = .string s ∧ IsAct rs m c k fd s) (fun _ _ i => len - (intOf i).toNat)
          case atStart => exact ⟨0, Nat.zero_le _, rfl, _, _, rfl, rfl, IsAct.start rs m c _⟩
          case round =>
            obtain ⟨k, hk, rfl, fd, s, rfl, rfl, hy⟩ := hrel
            by_cases hlt : k < len
            · obtain ⟨c0, c1⟩ := hcell k hlt
              have hi1 : (k : Int) < (len : Int) := by omega
              by_cases hp : (el rs k).pri = m
              · have hpb : ((el rs k).pri == m) = true := by simp [hp]
                by_cases hw : wt (el rs k).act = c
                · have hwb : (wt (el rs k).act == c) = true := by simp [hw]
                  cases hfd : fd
                  · have hnew := hy.new hp hw (fun h => by rw [hfd] at h; cases h)
                    subst hfd
                    clear hm hx hy hcell hwin hp hw
                    generalize (el rs k).pri = q at *
                    generalize (el rs k).act = t at *
                    go_wp2_with (go_at_call 9; refine (weight _ _).mono ?_; rintro e w' ⟨rfl, rfl⟩)
                    go_round
                    case rel => exact ⟨k + 1, by omega, by go_num, _, _, rfl, rfl, hnew⟩
                    case measure => simp [intOf]; omega
                  · subst hfd
                    cases hlx : Op.bytesLess (el rs k).act.toList s.toList
                    · have hnew := hy.keep2 hlx
                      clear hm hx hy hcell hwin hp hw
                      generalize (el rs k).pri = q at *
                      generalize (el rs k).act = t at *
                      go_wp2_with (go_at_call 9; refine (weight _ _).mono ?_; rintro e w' ⟨rfl, rfl⟩)
                      go_round
                      case rel => exact ⟨k + 1, by omega, by go_num, _, _, rfl, rfl, hnew⟩
                      case measure => simp [intOf]; omega
                    · have hnew := hy.new hp hw (fun _ => hlx)
                      clear hm hx hy hcell hwin hp hw
                      generalize (el rs k).pri = q at *
                      generalize (el rs k).act = t at *
                      go_wp2_with (go_at_call 9; refine (weight _ _).mono ?_; rintro e w' ⟨rfl, rfl⟩)
                      go_round
                      case rel => exact ⟨k + 1, by omega, by go_num, _, _, rfl, rfl, hnew⟩
                      case measure => simp [intOf]; omega
                · have hwb : (wt (el rs k).act == c) = false := by simp [hw]
                  have hnew := hy.keep (fun h => hw h.2)
                  clear hm hx hy hcell hwin hp hw
                  generalize (el rs k).pri = q at *
                  generalize (el rs k).act = t at *
                  go_wp2_with (go_at_call 9; refine (weight _ _).mono ?_; rintro e w' ⟨rfl, rfl⟩)
                  go_round
                  case rel => exact ⟨k + 1, by omega, by go_num, _, _, rfl, rfl, hnew⟩
                  case measure => simp [intOf]; omega
              · have hpb : ((el rs k).pri == m) = false := by simp [hp]
                have hnew := hy.keep (fun h => hp h.1)
                clear hm hx hy hcell hwin hp
                generalize (el rs k).pri = q at *
                generalize (el rs k).act = t at *
                go_wp2_with (go_at_call 9; refine (weight _ _).mono ?_; rintro e w' ⟨rfl, rfl⟩)
                go_round
                case rel => exact ⟨k + 1, by omega, by go_num, _, _, rfl, rfl, hnew⟩
                case measure => simp [intOf]; omega
            · obtain rfl : len = k := by omega
              clear hlt hk
              have hst := staged rs len hlp2 m c fd s hm hx hy
              rw [hst] at hwin ⊢
              clear hm hx hy hst
              have hat : ∀ k, k < len → tst rs m s k = true → cnt (tst rs m s) k < ((List.range len).filter (tst rs m s)).length ∧ ∃ g, ga = some ⟨g, 0, none⟩ ∧ w4.cell? ⟨g, cnt (tst rs m s) k, none⟩ = some (.int .i64 (k : Int)) := by
                intro k hk hP
                have h1 := filt_at (tst rs m s) k len hk hP
                obtain ⟨hlt, e⟩ := List.getElem?_eq_some_iff.1 h1
                obtain ⟨g, e2, hcg⟩ := hwin (by omega)
                exact ⟨hlt, g, e2, by rw [hcg _ hlt, e]⟩
              have HN : Hid (((List.range len).filter (tst rs m s)).length = cnt (tst rs m s) len) := rfl
              have hcl := cnt_le (tst rs m s)
              clear hwin
              generalize ((List.range len).filter (tst rs m s)).length = n at *
              go_wp2_with fail
              go_loop [13, 14] (fun x i => ∃ k : Nat, k ≤ len ∧ i = .int .i64 k ∧ x = .int .i64 (cnt (tst rs m s) k)) (fun _ i => len - (intOf i).toNat)
              case atStart => exact ⟨0, Nat.zero_le _, rfl, rfl⟩
              case round =>
                obtain ⟨k, hk, rfl, rfl⟩ := hrel
                by_cases hlt : k < len
                · obtain ⟨c0, c1⟩ := hcell k hlt
                  have hi1 : (k : Int) < (len : Int) := by omega
                  have hck := hcl k
                  cases hp : ((el rs k).pri == m)
                  · have hno : cnt (tst rs m s) (k + 1) = cnt (tst rs m s) k := cnt_no _ _ (by rw [tst, hp]; rfl)
                    have HC : Hid (cnt (tst rs m s) (k + 1) = cnt (tst rs m s) k) := hno
                    clear hno hat hcell hcl
                    generalize (el rs k).pri = q at *
                    generalize (el rs k).act = t at *
                    go_wp2
                    go_round
                    case rel => exact ⟨k + 1, by omega, by go_num, by rw [HC.out]⟩
                    case measure => simp [intOf]; omega
                  · cases ha : ((el rs k).act.toList == s.toList)
                    · have hno : cnt (tst rs m s) (k + 1) = cnt (tst rs m s) k := cnt_no _ _ (by rw [tst, hp, ha]; rfl)
                      have HC : Hid (cnt (tst rs m s) (k + 1) = cnt (tst rs m s) k) := hno
                      clear hno hat hcell hcl
                      generalize (el rs k).pri = q at *
                      generalize (el rs k).act = t at *
                      go_wp2
                      go_round
                      case rel => exact ⟨k + 1, by omega, by go_num, by rw [HC.out]⟩
                      case measure => simp [intOf]; omega
                    · have hP : tst rs m s k = true := by rw [tst, hp, ha]; rfl
                      have HC : Hid (cnt (tst rs m s) (k + 1) = cnt (tst rs m s) k + 1) := cnt_yes _ _ hP
                      obtain ⟨hln, g, rfl, hcg⟩ := hat k hlt hP
                      clear hat hcell hcl hP
                      generalize (el rs k).pri = q at *
                      generalize (el rs k).act = t at *
                      generalize cnt (tst rs m s) k = j at *
                      have j1 : (j : Int) < (n : Int) := by omega
                      have j0 : (0 : Int) ≤ (j : Int) := by omega
                      go_wp2
                      go_round
                      case rel => exact ⟨k + 1, by omega, by go_num, by rw [HC.out]; go_num⟩
                      case measure => simp [intOf]; omega
                · obtain rfl : len = k := by omega
                  have hfin : ((cnt (tst rs m s) len : Int) == (n : Int)) = true := by rw [beq_iff_eq, HN.out]
                  clear hat hcell hcl
                  generalize cnt (tst rs m s) len = j at *
                  go_wp2
                  go_ret
                  exact ⟨rfl, hbw4⟩

/-- The law at every input. -/
theorem staged_all (a : Option Addr) (len cap : Nat) (rs : List Rec) (w : World) (hs : Recs w a len rs) :
    Calls Try.prog 3 #[.slice a len cap] w fun e w' => e = .returned (.bool true) ∧ Below w.heap.size w w' := by
  by_cases hm : len ≤ 1048576
  · exact staged_any a len cap rs w hs hm
  · go_enter Try.func3, Try.ntmps3
    go_wp2_with fail
    refine (zz5 a len cap rs _ hs).mono ?_
    rintro e w ⟨(rfl | ⟨rfl, hx⟩), rfl⟩
    · go_wp2
      go_ret
      exact ⟨rfl, Below.refl _ _⟩
    · exact absurd hx hm
end Go.Proofs.Qxb6632316a
