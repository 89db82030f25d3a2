/-
  THE CONTRACTS of zzBytes_.. (5, 10) and sizeOK (6), seat b6632316a.
-/
import Derived.Test.Qxb6632316aRows
import Derived.WalkKit
import Derived.WalkSpells
import Derived.WalkLawsBesides
import Derived.ProofKit
import Derived.Below
import Derived.Handy
import Derived.Deep.OwnRows
import Derived.Test.Qxb6632316aPlain
import Derived.Deep.RegionHeld3
import Derived.Deep.DrawnRows
import Derived.BigRegion
import Derived.RegionTactic
namespace Go.Proofs.Qxb6632316a
open Go.RowKit
set_option linter.unusedVariables false

/-- WHAT THE WALK IS TOLD OF A SLICE OF RECORDS: its elements are the records rs, three cells each. -/
structure Recs (w : World) (a : Option Addr) (len : Nat) (rs : List Rec) : Prop where
  hlen : rs.length = len
  hle : len ≤ 9223372036854775807
  hat : 0 < len → ∃ b off, a = some ⟨b, off, none⟩ ∧ b < w.heap.size ∧ ∀ i (h : i < rs.length), w.cell? ⟨b, off + i * 3, none⟩ = some (.string rs[i].act) ∧ w.cell? ⟨b, off + i * 3 + 1, none⟩ = some (.int .i64 rs[i].pri) ∧ w.cell? ⟨b, off + i * 3 + 2, none⟩ = some (.string rs[i].id)

/-- The answer of zzBytes_..: where it is yes, the lengths are small. -/
def Small (q : Prop) (w : World) (e : Ending) (w' : World) : Prop := (e = .returned (.bool false) ∨ (e = .returned (.bool true) ∧ q)) ∧ w' = w
theorem Small.no {q : Prop} {w : World} : Small q w (.returned (.bool false)) w := ⟨.inl rfl, rfl⟩
theorem Small.yes {q : Prop} {w : World} (h : q) : Small q w (.returned (.bool true)) w := ⟨.inr ⟨rfl, h⟩, rfl⟩

set_option maxHeartbeats 400000 in
theorem zz5 (a : Option Addr) (len cap : Nat) (rs : List Rec) (w : World) (hs : Recs w a len rs) :
    Calls Try.prog 5 #[.slice a len cap] w (Small (len ≤ 1048576) w) := by
  by_cases hl : (1048576 : Int) < (len : Int)
  · go_enter Try.func5, Try.ntmps5
    go_wp2
    go_ret
    exact Small.no
  · have hl2 : len ≤ 1048576 := by omega
    go_enter Try.func5, Try.ntmps5
    go_wp2_with fail
    go_loop [3, 4] (fun z i => ∃ k : Nat, k ≤ len ∧ i = .int .i64 k ∧ ∃ n : Int, 0 ≤ n ∧ n ≤ 1048576 ∧ z = .int .i64 n) (fun _ i => len - (intOf i).toNat)
    case atStart => exact ⟨0, Nat.zero_le _, rfl, len, by omega, by omega, rfl⟩
    case round =>
      obtain ⟨k, hk, rfl, n, hn0, hn1, rfl⟩ := hrel
      by_cases hlt : k < len
      · obtain ⟨b, off, rfl, hb, hc⟩ := hs.hat (by omega)
        obtain ⟨c0, c1, c2⟩ := hc k (by rw [hs.hlen]; exact hlt)
        generalize rs[k]'(by rw [hs.hlen]; exact hlt) = r at *
        generalize r.act = s at *
        generalize r.id = t at *
        clear hc hs c1
        go_wp2
        · go_ret
          exact Small.no
        · go_ret
          exact Small.no
        · go_ret
          exact Small.no
        · go_ret
          exact Small.no
        · go_round
          case rel => exact ⟨k + 1, by omega, by go_num, _, by omega, by omega, rfl⟩
          case measure => simp [intOf]; omega
      · go_wp2
        all_goals go_ret
        all_goals (first | exact Small.no | exact Small.yes trivial | exact Small.yes hl2)

set_option maxHeartbeats 1000000 in
/-- zzBytes of the other law. -/
theorem zz10 (a : Option Addr) (len cap : Nat) (rs : List Rec) (a2 : Option Addr) (len2 cap2 : Nat) (rs2 : List Rec) (w : World) (hs : Recs w a len rs) (hs2 : Recs w a2 len2 rs2) :
    Calls Try.prog 10 #[.slice a len cap, .slice a2 len2 cap2] w (Small (len ≤ 1048576 ∧ len2 ≤ 1048576) w) := by
  by_cases hl : (1048576 : Int) < (len : Int)
  · go_enter Try.func10, Try.ntmps10
    go_wp2
    go_ret
    exact Small.no
  · have hl2 : len ≤ 1048576 := by omega
    go_enter Try.func10, Try.ntmps10
    go_wp2_with fail
    go_loop [5, 6] (fun z i => ∃ k : Nat, k ≤ len ∧ i = .int .i64 k ∧ ∃ n : Int, 0 ≤ n ∧ n ≤ 1048576 ∧ z = .int .i64 n) (fun _ i => len - (intOf i).toNat)
    case atStart => exact ⟨0, Nat.zero_le _, rfl, len, by omega, by omega, rfl⟩
    case round =>
      obtain ⟨k, hk, rfl, n, hn0, hn1, rfl⟩ := hrel
      by_cases hlt : k < len
      · obtain ⟨b, off, rfl, hb, hc⟩ := hs.hat (by omega)
        obtain ⟨c0, c1, c2⟩ := hc k (by rw [hs.hlen]; exact hlt)
        generalize rs[k]'(by rw [hs.hlen]; exact hlt) = r at *
        generalize r.act = s at *
        generalize r.id = t at *
        clear hc hs c1 hs2
        go_wp2
        · go_ret
          exact Small.no
        · go_ret
          exact Small.no
        · go_ret
          exact Small.no
        · go_ret
          exact Small.no
        · go_round
          case rel => exact ⟨k + 1, by omega, by go_num, _, by omega, by omega, rfl⟩
          case measure => simp [intOf]; omega
      · by_cases hm : (1048576 : Int) < (len2 : Int)
        · go_wp2
          go_ret
          exact Small.no
        · have hm2 : len2 ≤ 1048576 := by omega
          by_cases ho : 1048576 < n + (len2 : Int)
          · go_wp2
            go_ret
            exact Small.no
          · go_wp2_with fail
            go_loop [5, 7] (fun z i => ∃ k : Nat, k ≤ len2 ∧ i = .int .i64 k ∧ ∃ n : Int, 0 ≤ n ∧ n ≤ 1048576 ∧ z = .int .i64 n) (fun _ i => len2 - (intOf i).toNat)
            case atStart => exact ⟨0, Nat.zero_le _, rfl, _, by omega, by omega, rfl⟩
            case round =>
              obtain ⟨k, hk, rfl, n, hn0, hn1, rfl⟩ := hrel
              by_cases hlt : k < len2
              · obtain ⟨b, off, rfl, hb, hc⟩ := hs2.hat (by omega)
                obtain ⟨c0, c1, c2⟩ := hc k (by rw [hs2.hlen]; exact hlt)
                generalize rs2[k]'(by rw [hs2.hlen]; exact hlt) = r at *
                generalize r.act = s at *
                generalize r.id = t at *
                clear hc hs2 hs c1
                go_wp2
                · go_ret
                  exact Small.no
                · go_ret
                  exact Small.no
                · go_ret
                  exact Small.no
                · go_ret
                  exact Small.no
                · go_round
                  case rel => exact ⟨k + 1, by omega, by go_num, _, by omega, by omega, rfl⟩
                  case measure => simp [intOf]; omega
              · go_wp2
                all_goals go_ret
                all_goals (first | exact Small.no | exact Small.yes trivial | exact Small.yes ⟨hl2, hm2⟩)

/-! ### sizeOK -/
/-- The answer of sizeOK: the running total lies in block t, as before; nothing else has turned. -/
def SizeOK (t : Nat) (w : World) (e : Ending) (w' : World) : Prop := ∃ (r : Bool) (n : Int), e = .returned (.bool r) ∧ 0 ≤ n ∧ n ≤ 4194304 ∧ (r = true → n ≤ 1048576) ∧ w'.rowIs t 3 1 (fun _ => .int .i64 n) ∧ Below t w w' ∧ w'.heap.size = w.heap.size

set_option maxHeartbeats 1000000 in
theorem sizeOK (a : Option Addr) (len cap : Nat) (rs : List Rec) (t : Nat) (n : Int) (w : World) (hs : Recs w a len rs) (ht : w.rowIs t 3 1 (fun _ => .int .i64 n)) (h0 : 0 ≤ n) (h1 : n ≤ 1048576) (hat : ∀ b off, a = some ⟨b, off, none⟩ → 0 < len → b < t) :
    Calls Try.prog 6 #[.slice a len cap, .pointer (some ⟨t, 0, none⟩)] w (SizeOK t w) := by
  have hle := hs.hle
  go_enter Try.func6, Try.ntmps6
  go_wp2_with fail
  go_loopw [5] (fun i wr => ∃ k : Nat, k ≤ len ∧ i = .int .i64 k ∧ ∃ n : Int, 0 ≤ n ∧ n ≤ 1048576 ∧ wr.rowIs t 3 1 (fun _ => .int .i64 n) ∧ Below t w wr ∧ wr.heap.size = w.heap.size) (fun i _ => len - (intOf i).toNat)
  case atStart => exact ⟨0, Nat.zero_le _, rfl, n, h0, h1, ht, Below.refl _ _, rfl⟩
  case round =>
    obtain ⟨k, hk, rfl, m, hn0, hn1, hrow, hbel, hsz⟩ := hrel
    by_cases hlt : k < len
    · obtain ⟨b, off, rfl, hb, hc⟩ := hs.hat (by omega)
      have hbt := hat b off rfl (by omega)
      obtain ⟨c0, c1, c2⟩ := hc k (by rw [hs.hlen]; exact hlt)
      rw [← hbel.cell (p := ⟨b, off + k * 3, none⟩) hbt] at c0
      rw [← hbel.cell (p := ⟨b, off + k * 3 + 2, none⟩) hbt] at c2
      generalize rs[k]'(by rw [hs.hlen]; exact hlt) = r at *
      generalize r.act = s at *
      generalize r.id = u at *
      have ct := hrow.cell (i := 0) (by decide)
      have cf := hrow.frozen 0
      clear hc hs c1 hat ht hb
      by_cases hsa : (1048576 : Int) < (s.size : Int)
      · go_wp2
        go_ret
        exact ⟨false, m, rfl, by omega, by omega, by simp, hrow, hbel, hsz⟩
      by_cases hsb : (1048576 : Int) < (u.size : Int)
      · go_wp2
        go_ret
        exact ⟨false, m, rfl, by omega, by omega, by simp, hrow, hbel, hsz⟩
      go_wp2_with fail
      have hne : ¬ t = b := by omega
      have hne' : ¬ b = t := by omega
      go_region
      go_wp2
      · go_ret
        exact ⟨false, m + 40 + (s.size : Int) + (u.size : Int), rfl, by omega, by omega, by simp, ((hrow.set 0 _).drew).congr (fun i hi => by simp [show i = 0 from by omega]), (hbel.setCell (Nat.le_refl _) _).drew, by simp [hsz]⟩
      · exact ⟨⟨k + 1, by omega, by go_num, m + 40 + (s.size : Int) + (u.size : Int), by omega, by omega, ((hrow.set 0 _).drew).congr (fun i hi => by simp [show i = 0 from by omega]), (hbel.setCell (Nat.le_refl _) _).drew, by simp [hsz]⟩, by simp [intOf]; omega⟩
    · go_wp2
      go_ret
      exact ⟨true, m, rfl, by omega, by omega, by simp; omega, hrow, hbel, hsz⟩
end Go.Proofs.Qxb6632316a
