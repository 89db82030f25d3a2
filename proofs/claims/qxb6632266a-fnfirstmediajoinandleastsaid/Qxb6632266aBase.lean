/-
  THE CONTRACTS of the functions that both laws of seat b6632266a call: zzBytes_.. (5, 9), fmListBytes (6), FirstMedia (7), fmTypeAt (8).
-/
import Derived.Test.Qxb6632266aRows
import Derived.WalkKit
import Derived.WalkSpells
import Derived.WalkLawsBesides
import Derived.ProofKit
import Derived.Below
import Derived.Handy
import Derived.Deep.OwnRows
import Derived.Test.Qxb6632266aPlain
namespace Go.Proofs.Qxb6632266a
open Go.RowKit
set_option linter.unusedVariables false

/-- WHAT THE WALK IS TOLD OF A SLICE OF STRINGS THAT CAME IN: its elements are the strings ss. -/
structure Strs (w : World) (a : Option Addr) (len : Nat) (ss : List ByteArray) : Prop where
  hlen : ss.length = len
  hle : len ≤ 9223372036854775807
  hat : 0 < len → ∃ b off, a = some ⟨b, off, none⟩ ∧ b < w.heap.size ∧ ∀ i (h : i < ss.length), w.cell? ⟨b, off + i, none⟩ = some (.string ss[i])

/-- The answer of zzBytes_..: where it is yes, the lengths are small. -/
def Small (q : Prop) (w : World) (e : Ending) (w' : World) : Prop := (e = .returned (.bool false) ∨ (e = .returned (.bool true) ∧ q)) ∧ w' = w
theorem Small.no {q : Prop} {w : World} : Small q w (.returned (.bool false)) w := ⟨.inl rfl, rfl⟩
theorem Small.yes {q : Prop} {w : World} (h : q) : Small q w (.returned (.bool true)) w := ⟨.inr ⟨rfl, h⟩, rfl⟩

set_option maxHeartbeats 400000 in
theorem zz9 (a : Option Addr) (len cap : Nat) (ss : List ByteArray) (p : Int) (u typ : ByteArray) (w : World) (hs : Strs w a len ss) :
    Calls Try.prog 9 #[.slice a len cap, .int .i64 p, .string u, .string typ] w (Small (len ≤ 1048576) w) := by
  by_cases hl : (1048576 : Int) < (len : Int)
  · go_enter Try.func9, Try.ntmps9
    go_wp2
    go_ret
    exact Small.no
  · have hl2 : len ≤ 1048576 := by omega
    go_enter Try.func9, Try.ntmps9
    go_wp2_with fail
    go_loop [9, 10] (fun z i => ∃ k : Nat, k ≤ len ∧ i = .int .i64 k ∧ ∃ n : Int, 0 ≤ n ∧ n ≤ 1048576 ∧ z = .int .i64 n) (fun _ i => len - (intOf i).toNat)
    case atStart => exact ⟨0, Nat.zero_le _, rfl, len, by omega, by omega, rfl⟩
    case round =>
      obtain ⟨k, hk, rfl, n, hn0, hn1, rfl⟩ := hrel
      by_cases hlt : k < len
      · obtain ⟨b, off, rfl, hb, hc⟩ := hs.hat (by omega)
        have hck := hc k (by rw [hs.hlen]; exact hlt)
        generalize ss[k]'(by rw [hs.hlen]; exact hlt) = s at *
        clear hc hs
        go_wp2
        · go_ret
          exact Small.no
        · go_ret
          exact Small.no
        · go_round
          case rel => exact ⟨k + 1, by omega, by go_num, _, by omega, by omega, rfl⟩
          case measure => simp [intOf]; omega
      · go_wp2
        all_goals go_ret
        all_goals (first | exact Small.no | exact Small.yes trivial | exact Small.yes hl2)

set_option maxHeartbeats 400000 in
/-- zzBytes of the other law. -/
theorem zz5 (a : Option Addr) (len cap : Nat) (ss : List ByteArray) (a2 : Option Addr) (len2 cap2 : Nat) (ss2 : List ByteArray) (typ : ByteArray) (w : World) (hs : Strs w a len ss) (hs2 : Strs w a2 len2 ss2) :
    Calls Try.prog 5 #[.slice a len cap, .slice a2 len2 cap2, .string typ] w (Small (len ≤ 1048576 ∧ len2 ≤ 1048576) w) := by
  by_cases hl : (1048576 : Int) < (len : Int)
  · go_enter Try.func5, Try.ntmps5
    go_wp2
    go_ret
    exact Small.no
  · have hl2 : len ≤ 1048576 := by omega
    go_enter Try.func5, Try.ntmps5
    go_wp2_with fail
    go_loop [7, 8] (fun z i => ∃ k : Nat, k ≤ len ∧ i = .int .i64 k ∧ ∃ n : Int, 0 ≤ n ∧ n ≤ 1048576 ∧ z = .int .i64 n) (fun _ i => len - (intOf i).toNat)
    case atStart => exact ⟨0, Nat.zero_le _, rfl, len, by omega, by omega, rfl⟩
    case round =>
      obtain ⟨k, hk, rfl, n, hn0, hn1, rfl⟩ := hrel
      by_cases hlt : k < len
      · obtain ⟨b, off, rfl, hb, hc⟩ := hs.hat (by omega)
        have hck := hc k (by rw [hs.hlen]; exact hlt)
        generalize ss[k]'(by rw [hs.hlen]; exact hlt) = s at *
        clear hc hs
        go_wp2
        · go_ret
          exact Small.no
        · go_ret
          exact Small.no
        · go_round
          case rel => exact ⟨k + 1, by omega, by go_num, _, by omega, by omega, rfl⟩
          case measure => simp [intOf]; omega
      · by_cases hm : (1048576 : Int) < (len2 : Int)
        · go_wp2
          go_ret
          exact Small.no
        · have hm2 : len2 ≤ 1048576 := by omega
          by_cases ho : 1048576 < n + (len2 : Int)
          · go_wp2
            go_ret
            exact Small.no
          · go_wp2_with fail
            go_loop [7, 9] (fun z i => ∃ k : Nat, k ≤ len2 ∧ i = .int .i64 k ∧ ∃ n : Int, 0 ≤ n ∧ n ≤ 1048576 ∧ z = .int .i64 n) (fun _ i => len2 - (intOf i).toNat)
            case atStart => exact ⟨0, Nat.zero_le _, rfl, _, by omega, by omega, rfl⟩
            case round =>
              obtain ⟨k, hk, rfl, n, hn0, hn1, rfl⟩ := hrel
              by_cases hlt : k < len2
              · obtain ⟨b, off, rfl, hb, hc⟩ := hs2.hat (by omega)
                have hck := hc k (by rw [hs2.hlen]; exact hlt)
                generalize ss2[k]'(by rw [hs2.hlen]; exact hlt) = s at *
                clear hc hs2
                go_wp2
                · go_ret
                  exact Small.no
                · go_ret
                  exact Small.no
                · go_round
                  case rel => exact ⟨k + 1, by omega, by go_num, _, by omega, by omega, rfl⟩
                  case measure => simp [intOf]; omega
              · go_wp2
                all_goals go_ret
                all_goals (first | exact Small.no | exact Small.yes trivial | exact Small.yes ⟨hl2, hm2⟩)

/-- The answer of fmListBytes. -/
def Sum (w : World) (e : Ending) (w' : World) : Prop := ∃ r : Int, 0 ≤ r ∧ r ≤ 4194304 ∧ e = .returned (.int .i64 r) ∧ w' = w

set_option maxHeartbeats 400000 in
theorem listBytes (n : Int) (a : Option Addr) (len cap : Nat) (ss : List ByteArray) (w : World) (hs : Strs w a len ss) (h0 : 0 ≤ n) (h1 : n ≤ 2097152) :
    Calls Try.prog 6 #[.int .i64 n, .slice a len cap] w (Sum w) := by
  have hle := hs.hle
  go_enter Try.func6, Try.ntmps6
  go_wp2_with fail
  go_loop [0, 5] (fun z i => ∃ k : Nat, k ≤ len ∧ i = .int .i64 k ∧ ∃ n : Int, 0 ≤ n ∧ n ≤ 2097152 ∧ z = .int .i64 n) (fun _ i => len - (intOf i).toNat)
  case atStart => exact ⟨0, Nat.zero_le _, rfl, n, by omega, by omega, rfl⟩
  case round =>
    obtain ⟨k, hk, rfl, n, hn0, hn1, rfl⟩ := hrel
    by_cases hlt : k < len
    · obtain ⟨b, off, rfl, hb, hc⟩ := hs.hat (by omega)
      have hck := hc k (by rw [hs.hlen]; exact hlt)
      generalize ss[k]'(by rw [hs.hlen]; exact hlt) = s at *
      clear hc hs
      go_wp2
      · go_ret
        exact ⟨_, by omega, by omega, rfl, rfl⟩
      · go_ret
        exact ⟨_, by omega, by omega, rfl, rfl⟩
      · go_round
        case rel => exact ⟨k + 1, by omega, by go_num, _, by omega, by omega, rfl⟩
        case measure => simp [intOf]; omega
    · go_wp2
      go_ret
      exact ⟨_, by omega, by omega, rfl, rfl⟩

/-! ### FirstMedia -/
/-- A slice of pointers to media: element i is a pointer to block q i, whose first cell is the type ts[i]. -/
structure Med (w : World) (ad : Option Addr) (q : Nat → Nat) (ts : List ByteArray) : Prop where
  hle : ts.length ≤ 9223372036854775807
  hat : 0 < ts.length → ∃ M off, ad = some ⟨M, off, none⟩ ∧ ∀ i (h : i < ts.length), w.cell? ⟨M, off + i, none⟩ = some (.pointer (some ⟨q i, 0, none⟩)) ∧ w.cell? ⟨q i, 0, none⟩ = some (.string ts[i])

theorem Med.alloc {w : World} {ad : Option Addr} {q : Nat → Nat} {ts : List ByteArray} (h : Med w ad q ts) (o : Obj) : Med (w.alloc o) ad q ts := by
  refine ⟨h.hle, fun h0 => ?_⟩
  obtain ⟨M, off, e, hc⟩ := h.hat h0
  refine ⟨M, off, e, fun i hi => ?_⟩
  obtain ⟨h1, h2⟩ := hc i hi
  have b1 : M < w.heap.size := by
    rcases Nat.lt_or_ge M w.heap.size with h | h
    · exact h
    · simp [World.cell?, Array.getElem?_eq_none h] at h1
  have b2 : q i < w.heap.size := by
    rcases Nat.lt_or_ge (q i) w.heap.size with h | h
    · exact h
    · simp [World.cell?, Array.getElem?_eq_none h] at h2
  have hb := (Below.refl w.heap.size w).alloc (Nat.le_refl _) o
  exact ⟨by rw [hb.cell (p := ⟨M, off + i, none⟩) b1, h1], by rw [hb.cell (p := ⟨q i, 0, none⟩) b2, h2]⟩

/-- What FirstMedia answers. -/
def ptrAt (q : Nat → Nat) (ts : List ByteArray) (typ : ByteArray) : Value := if fst ts typ < ts.length then .pointer (some ⟨q (fst ts typ), 0, none⟩) else .pointer none

set_option maxHeartbeats 400000 in
theorem firstMedia (bs : Nat) (ad : Option Addr) (n cap : Nat) (q : Nat → Nat) (ts : List ByteArray) (typ : ByteArray) (w : World) (hm : Med w ad q ts) (hn : ts.length = n) (hs : w.cell? ⟨bs, 1, none⟩ = some (.slice ad n cap)) :
    Calls Try.prog 7 #[.pointer (some ⟨bs, 0, none⟩), .string typ] w fun e w' => e = .returned (ptrAt q ts typ) ∧ w' = w := by
  subst hn
  have hle := hm.hle
  go_enter Try.func7, Try.ntmps7
  go_wp2_with fail
  go_loop [12] (fun i => ∃ k : Nat, k ≤ fst ts typ ∧ i = .int .i64 k) (fun i => ts.length - (intOf i).toNat)
  case atStart => exact ⟨0, Nat.zero_le _, rfl⟩
  case round =>
    obtain ⟨k, hk, rfl⟩ := hrel
    by_cases hlt : k < ts.length
    · obtain ⟨M, off, rfl, hc⟩ := hm.hat (by omega)
      obtain ⟨hc1, hc2⟩ := hc k hlt
      generalize hsk : ts[k] = s at *
      have HS : Hid (ts[k] = s) := hsk
      clear hc hm hsk
      go_wp2
      · have hh : (s.toList == typ.toList) = true := by assumption
        go_ret
        have e : fst ts typ = k := fst_at ts typ k hk hlt (by rw [HS.out]; exact hh)
        exact ⟨by simp only [ptrAt, e, hlt, if_true]; rfl, rfl⟩
      · have hh : (s.toList == typ.toList) = false := by assumption
        go_round
        case rel => exact ⟨k + 1, fst_past ts typ k hk hlt (by rw [HS.out]; exact hh), by go_num⟩
        case measure => simp [intOf]; omega
    · have hle2 := fst_le ts typ
      go_wp2
      go_ret
      have e : ¬ fst ts typ < ts.length := by omega
      exact ⟨by simp only [ptrAt, e, if_false]; rfl, rfl⟩

/-! ### fmTypeAt -/
set_option maxHeartbeats 400000 in
theorem typeAt (a : Option Addr) (len cap : Nat) (ss : List ByteArray) (a2 : Option Addr) (len2 cap2 : Nat) (ss2 : List ByteArray) (i : Nat) (w : World) (hs : Strs w a len ss) (hs2 : Strs w a2 len2 ss2) (hi : i < (ss ++ ss2).length) :
    Calls Try.prog 8 #[.slice a len cap, .slice a2 len2 cap2, .int .i64 i] w fun e w' => e = .returned (.string (ss ++ ss2)[i]) ∧ w' = w := by
  have hl := hs.hlen
  have hl2 := hs2.hlen
  have hle := hs.hle
  have hle2 := hs2.hle
  by_cases hlt : i < len
  · obtain ⟨b, off, rfl, hb, hc⟩ := hs.hat (by omega)
    have hck := hc i (by rw [hs.hlen]; exact hlt)
    have e : (ss ++ ss2)[i] = ss[i]'(by omega) := List.getElem_append_left (by omega)
    rw [e]
    generalize ss[i]'(by rw [hs.hlen]; exact hlt) = s at *
    clear hc hs hs2 hl hl2 hi e
    go_enter Try.func8, Try.ntmps8
    go_wp2
    go_ret
    exact ⟨rfl, rfl⟩
  · have hi2 : i - len < len2 := by simp at hi; omega
    obtain ⟨b, off, rfl, hb, hc⟩ := hs2.hat (by omega)
    obtain ⟨j, rfl⟩ : ∃ j, i = len + j := ⟨i - len, by omega⟩
    have hck := hc j (by omega)
    have e : (ss ++ ss2)[len + j] = ss2[j]'(by omega) := by
      rw [List.getElem_append_right (by omega)]
      simp only [hl, Nat.add_sub_cancel_left]
    rw [e]
    generalize ss2[j]'(by omega) = s at *
    have hj0 : (0 : Int) ≤ (j : Int) := by omega
    have hj1 : (j : Int) < (len2 : Int) := by omega
    have hs0 : ((len + j : Nat) : Int) - (len : Int) = (j : Int) := by omega
    clear hc hs hs2 hl hl2 hi e hi2
    go_enter Try.func8, Try.ntmps8
    go_wp2
    go_ret
    exact ⟨rfl, rfl⟩
end Go.Proofs.Qxb6632266a
