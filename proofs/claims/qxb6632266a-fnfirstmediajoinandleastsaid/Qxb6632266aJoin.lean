/-
  THE WALK of FnFirstMediaJoinAndLeast (function 3), seat b6632266a.
-/
import Derived.Test.Qxb6632266aInsert
namespace Go.Proofs.Qxb6632266a
open Go.RowKit
set_option linter.unusedVariables false

theorem neq_same (W : World) (a : Addr) : (binOp .neq 26 (.pointer (some a)) (.pointer (some a))).run Try.prog W = .ok (.bool false) W := by
  obtain ⟨j, hj, _⟩ := Try.info30
  have h : ∀ d : Nat, (Op.equalIn (d + 1) 26 (.pointer (some a)) (.pointer (some a))).run Try.prog W = .ok true W := fun d => by
    simp [Op.equalIn, run_underlying Try.underlying26, sizeOf, typeInfo, hj, run_sameAddr_same]
  simp only [binOp]
  simp [Op.equal, Op.maxDepth, h 9999]

/-- 'ms[na:]'. -/
theorem slice_tail (B na nb : Nat) : ∃ ad : Addr, (0 < nb → ad = ⟨B, na, none⟩) ∧ ∀ W, (Instr.sliceAt 25 (.slice (some ⟨B, 0, none⟩) (na + nb) (na + nb)) (some (.int .i64 (na : Int))) none none).run Try.prog W = .ok (.slice (some ad) nb nb) W := by
  have hz : ∀ W, (sizeOf (Try.prog.elem 25)).run Try.prog W = .ok 1 W := fun W => by kernel_rfl
  have h := fun W => run_slice_l (P := Try.prog) W 25 (some ⟨B, 0, none⟩) (na + nb) (na + nb) (by kernel_rfl) .i64 (na : Int) (by omega) (by omega)
  by_cases hn : nb = 0
  · subst hn
    refine ⟨⟨B, 0, none⟩, fun h => by omega, fun W => ?_⟩
    rw [run_sliceAt_slice W 25 _ _ _ _ (by kernel_rfl), h W]
    simp [hz, sliced, Result.andThen]
  · refine ⟨⟨B, na, none⟩, fun _ => rfl, fun W => ?_⟩
    rw [run_sliceAt_slice W 25 _ _ _ _ (by kernel_rfl), h W]
    simp [hz, sliced, Result.andThen, hn, Addr.add]
    try omega

/-- The world once the three sessions are made. -/
structure Tri (w : World) (na nb S : Nat) (ad : Addr) (sa sb : List ByteArray) (w3 : World) : Prop where
  below : Below w.heap.size w w3
  ptr : ∀ i, i < na + nb → w3.cell? ⟨w.heap.size, i, none⟩ = some (.pointer (some ⟨w.heap.size + 1 + i, 0, none⟩))
  blk : ∀ j, j < na + nb → ∃ c t, w3.heap[w.heap.size + 1 + j]? = some (.cells c t (0, 0))
  medW : Med w3 (some ⟨w.heap.size, 0, none⟩) (fun j => w.heap.size + 1 + j) (sa ++ sb)
  medL : Med w3 (some ⟨w.heap.size, 0, none⟩) (fun j => w.heap.size + 1 + j) sa
  medR : Med w3 (some ad) (fun j => w.heap.size + 1 + (na + j)) sb
  s1 : w3.cell? ⟨S, 1, none⟩ = some (.slice (some ⟨w.heap.size, 0, none⟩) (na + nb) (na + nb))
  s2 : w3.cell? ⟨S + 1, 1, none⟩ = some (.slice (some ⟨w.heap.size, 0, none⟩) na na)
  s3 : w3.cell? ⟨S + 1 + 1, 1, none⟩ = some (.slice (some ad) nb nb)

theorem Made.tri {w : World} {na nb : Nat} {sa sb : List ByteArray} {wr : World} (h : Made w w.heap.size (na + nb) (na + nb) (sa ++ sb) wr) (hl : sa.length = na) (hl2 : sb.length = nb) (hm : na ≤ 1048576) (hm2 : nb ≤ 1048576) (ad : Addr) (had : 0 < nb → ad = ⟨w.heap.size, na, none⟩) :
    Tri w na nb wr.heap.size ad sa sb (((wr.alloc (Obj.cells #[.slice none 0 0, .slice (some ⟨w.heap.size, 0, none⟩) (na + nb) (na + nb)] 33)).alloc (Obj.cells #[.slice none 0 0, .slice (some ⟨w.heap.size, 0, none⟩) na na] 33)).alloc (Obj.cells #[.slice none 0 0, .slice (some ad) nb nb] 33)) := by
  have hbel : Below wr.heap.size wr (((wr.alloc (Obj.cells #[.slice none 0 0, .slice (some ⟨w.heap.size, 0, none⟩) (na + nb) (na + nb)] 33)).alloc (Obj.cells #[.slice none 0 0, .slice (some ⟨w.heap.size, 0, none⟩) na na] 33)).alloc (Obj.cells #[.slice none 0 0, .slice (some ad) nb nb] 33)) := (((Below.refl _ _).alloc (Nat.le_refl _) _).alloc (by simp) _).alloc (by simp; omega) _
  have hz := h.size
  have hlen : (sa ++ sb).length = na + nb := by simp; omega
  have hmed : ∀ j (hj : j < (sa ++ sb).length), wr.cell? ⟨w.heap.size + 1 + j, 0, none⟩ = some (.string (sa ++ sb)[j]) := fun j hj => h.med j hj (by omega)
  have hptr : ∀ i, i < na + nb → (((wr.alloc (Obj.cells #[.slice none 0 0, .slice (some ⟨w.heap.size, 0, none⟩) (na + nb) (na + nb)] 33)).alloc (Obj.cells #[.slice none 0 0, .slice (some ⟨w.heap.size, 0, none⟩) na na] 33)).alloc (Obj.cells #[.slice none 0 0, .slice (some ad) nb nb] 33)).cell? ⟨w.heap.size, i, none⟩ = some (.pointer (some ⟨w.heap.size + 1 + i, 0, none⟩)) := fun i hi => by
    rw [hbel.cell (p := ⟨w.heap.size, i, none⟩) (by simp; omega), h.row.cell hi, if_pos hi]
  have hstr : ∀ j (hj : j < (sa ++ sb).length), (((wr.alloc (Obj.cells #[.slice none 0 0, .slice (some ⟨w.heap.size, 0, none⟩) (na + nb) (na + nb)] 33)).alloc (Obj.cells #[.slice none 0 0, .slice (some ⟨w.heap.size, 0, none⟩) na na] 33)).alloc (Obj.cells #[.slice none 0 0, .slice (some ad) nb nb] 33)).cell? ⟨w.heap.size + 1 + j, 0, none⟩ = some (.string (sa ++ sb)[j]) := fun j hj => by
    rw [hbel.cell (p := ⟨w.heap.size + 1 + j, 0, none⟩) (by simp; omega)]
    exact hmed j hj
  generalize hw3 : ((wr.alloc (Obj.cells #[.slice none 0 0, .slice (some ⟨w.heap.size, 0, none⟩) (na + nb) (na + nb)] 33)).alloc (Obj.cells #[.slice none 0 0, .slice (some ⟨w.heap.size, 0, none⟩) na na] 33)).alloc (Obj.cells #[.slice none 0 0, .slice (some ad) nb nb] 33) = w3 at *
  refine ⟨h.below.trans (hbel.mono (by omega)), hptr, ?_, ⟨by omega, fun _ => ⟨_, 0, rfl, fun i hi => ⟨?_, hstr i hi⟩⟩⟩, ⟨by omega, fun _ => ⟨_, 0, rfl, fun i hi => ⟨?_, ?_⟩⟩⟩, ⟨by omega, fun h0 => ⟨_, na, by rw [had (by omega)], fun i hi => ⟨?_, ?_⟩⟩⟩, ?_, ?_, ?_⟩
  · intro j hj
    obtain ⟨c, t, hct⟩ := h.blk j hj
    exact ⟨c, t, by rw [hbel.block _ (by omega), hct]⟩
  · rw [Nat.zero_add]; exact hptr i (by omega)
  · rw [Nat.zero_add]; exact hptr i (by omega)
  · rw [hstr i (by omega), List.getElem_append_left hi]
  · exact hptr (na + i) (by omega)
  · rw [hstr (na + i) (by omega), List.getElem_append_right (by omega)]
    simp only [hl, Nat.add_sub_cancel_left]
  · rw [← hw3]; simp [go_sem]
  · rw [← hw3]; simp [go_sem]
  · rw [← hw3]; simp [go_sem]

theorem Strs.later {w w3 : World} {a : Option Addr} {n : Nat} {ss : List ByteArray} (h : Strs w a n ss) (hb : Below w.heap.size w w3) : Strs w3 a n ss := by
  refine ⟨h.hlen, h.hle, fun h0 => ?_⟩
  obtain ⟨b, off, e, hlt, hc⟩ := h.hat h0
  have := hb.size
  exact ⟨b, off, e, by omega, fun i hi => by rw [hb.cell (p := ⟨b, off + i, none⟩) hlt]; exact hc i hi⟩

set_option maxHeartbeats 1000000 in
theorem join_any (a : Option Addr) (na cap : Nat) (sa : List ByteArray) (b : Option Addr) (nb cap2 : Nat) (sb : List ByteArray) (typ : ByteArray) (w : World) (hs : Strs w a na sa) (hs2 : Strs w b nb sb) (hm : na ≤ 1048576) (hm2 : nb ≤ 1048576) (ht : (typ.size : Int) ≤ 1048576) :
    Calls Try.prog 3 #[.slice a na cap, .slice b nb cap2, .string typ] w fun e w' => e = .returned (.bool true) ∧ Below w.heap.size w w' := by
  have hmk := run_make_row' (P := Try.prog) 25 26 (.pointer none) 8 Try.underlying25 Try.info26 rfl .i64 .i64 (na + nb) (by omega) (by omega)
  rw [show ((na + nb : Nat) : Int) = (na : Int) + (nb : Int) from by omega] at hmk
  go_enter Try.func3, Try.ntmps3
  go_wp2_with fail
  refine (zz5 a na cap sa b nb cap2 sb typ _ hs hs2).mono ?_
  rintro e w ⟨(rfl | ⟨rfl, _⟩), rfl⟩
  · go_wp2
    go_ret
    exact ⟨rfl, Below.refl _ _⟩
  go_wp2_with fail
  refine (listBytes _ a na cap sa _ hs (by omega) (by omega)).mono ?_
  rintro e w ⟨r, hr0, hr1, rfl, rfl⟩
  by_cases hr : 1048576 < r
  · go_wp2
    go_ret
    exact ⟨rfl, Below.refl _ _⟩
  go_wp2_with fail
  refine (listBytes _ b nb cap2 sb _ hs2 (by omega) (by omega)).mono ?_
  rintro e w ⟨r2, hq0, hq1, rfl, rfl⟩
  by_cases hq : 1048576 < r2
  · go_wp2
    go_ret
    exact ⟨rfl, Below.refl _ _⟩
  go_wp2_with fail
  have hl := hs.hlen
  have hl2 := hs2.hlen
  go_loopw [11] (fun i wr => ∃ k : Nat, k ≤ na ∧ i = .int .i64 k ∧ Made w w.heap.size (na + nb) k (sa ++ sb) wr) (fun i _ => na - (intOf i).toNat)
  case atStart => exact ⟨0, Nat.zero_le _, rfl, Made.start w (na + nb) (sa ++ sb)⟩
  case round =>
    obtain ⟨k, hk, rfl, hM⟩ := hrel
    by_cases hlt : k < na
    · obtain ⟨b', off, rfl, hb, hc⟩ := hs.hat (by omega)
      have hck := hc k (by rw [hs.hlen]; exact hlt)
      rw [← hM.below.cell (p := ⟨b', off + k, none⟩) hb] at hck
      generalize hsk : sa[k]'(by rw [hs.hlen]; exact hlt) = s at *
      have HF : Hid ((∃ k' : Nat, k' ≤ na ∧ Value.int .i64 ((k : Int) + 1) = .int .i64 k' ∧ Made w w.heap.size (na + nb) k' (sa ++ sb) ((wr.setCell ⟨w.heap.size, k, none⟩ (.pointer (some ⟨wr.heap.size, 0, none⟩))).alloc (.cells (mcells s) 30))) ∧ na - (intOf (Value.int .i64 ((k : Int) + 1))).toNat < na - (intOf (Value.int .i64 (k : Int))).toNat) :=
        ⟨⟨k + 1, by omega, by go_num, hM.step (by omega) s (fun hh => by rw [← hsk]; exact List.getElem_append_left (by omega))⟩, by simp [intOf]; omega⟩
      have hrc := hM.row.cell (i := k) (by omega)
      rw [if_neg (Nat.lt_irrefl k)] at hrc
      have hrf := hM.row.frozen k
      have hsz : w.heap.size < wr.heap.size := by have := hM.size; omega
      have i1 : (k : Int) < (na : Int) + (nb : Int) := by omega
      clear hc hs hs2 hsk hM hmk hl hl2
      go_wp2_with fail
      exact HF.out
    · obtain rfl : na = k := by omega
      have hM' : Made w w.heap.size (na + nb) (na + 0) (sa ++ sb) wr := hM
      clear hM hmk hk hlt
      go_wp2_with fail
      go_loopw [12] (fun i wr => ∃ k : Nat, k ≤ nb ∧ i = .int .i64 k ∧ Made w w.heap.size (na + nb) (na + k) (sa ++ sb) wr) (fun i _ => nb - (intOf i).toNat)
      case atStart => exact ⟨0, Nat.zero_le _, rfl, hM'⟩
      case round =>
        obtain ⟨k, hk, rfl, hM⟩ := hrel
        clear hM'
        by_cases hlt : k < nb
        · obtain ⟨b', off, rfl, hb, hc⟩ := hs2.hat (by omega)
          have hck := hc k (by rw [hs2.hlen]; exact hlt)
          rw [← hM.below.cell (p := ⟨b', off + k, none⟩) hb] at hck
          generalize hsk : sb[k]'(by rw [hs2.hlen]; exact hlt) = s at *
          have HF : Hid ((∃ k' : Nat, k' ≤ nb ∧ Value.int .i64 ((k : Int) + 1) = .int .i64 k' ∧ Made w w.heap.size (na + nb) (na + k') (sa ++ sb) ((wr.setCell ⟨w.heap.size, na + k, none⟩ (.pointer (some ⟨wr.heap.size, 0, none⟩))).alloc (.cells (mcells s) 30))) ∧ nb - (intOf (Value.int .i64 ((k : Int) + 1))).toNat < nb - (intOf (Value.int .i64 (k : Int))).toNat) :=
            ⟨⟨k + 1, by omega, by go_num, hM.step (by omega) s (fun hh => by rw [← hsk, List.getElem_append_right (by omega)]; simp only [hl, Nat.add_sub_cancel_left])⟩, by simp [intOf]; omega⟩
          have hrc := hM.row.cell (i := na + k) (by omega)
          rw [if_neg (Nat.lt_irrefl _)] at hrc
          have hrf := hM.row.frozen (na + k)
          have hsz : w.heap.size < wr.heap.size := by have := hM.size; omega
          have i1 : (na : Int) + (k : Int) < (na : Int) + (nb : Int) := by omega
          have i2 : (0 : Int) ≤ (na : Int) + (k : Int) := by omega
          clear hc hs hs2 hsk hM hl hl2
          go_wp2_with fail
          exact HF.out
        · obtain rfl : nb = k := by omega
          clear hk hlt
          obtain ⟨ad, had, hsl⟩ := slice_tail w.heap.size na nb
          have hT := hM.tri hl hl2 hm hm2 ad had
          clear had hM
          go_wp2_with fail
          generalize ((wr.alloc (Obj.cells #[.slice none 0 0, .slice (some ⟨w.heap.size, 0, none⟩) (na + nb) (na + nb)] 33)).alloc (Obj.cells #[.slice none 0 0, .slice (some ⟨w.heap.size, 0, none⟩) na na] 33)).alloc (Obj.cells #[.slice none 0 0, .slice (some ad) nb nb] 33) = w3 at *
          generalize wr.heap.size = S at *
          clear hsl
          have hlen : (sa ++ sb).length = na + nb := by simp; omega
          obtain ⟨hbel, hP, hK, mW, mL, mR, s1, s2, s3⟩ := hT
          have heq := eq_same
          have hneq := neq_same
          refine (firstMedia S (some ⟨w.heap.size, 0, none⟩) (na + nb) (na + nb) (fun j => w.heap.size + 1 + j) (sa ++ sb) typ w3 mW hlen s1).mono ?_
          rintro e w3 ⟨rfl, rfl⟩
          go_wp2_with fail
          refine (firstMedia (S + 1) (some ⟨w.heap.size, 0, none⟩) na na (fun j => w.heap.size + 1 + j) sa typ w3 mL hl s2).mono ?_
          rintro e w3 ⟨rfl, rfl⟩
          go_wp2_with fail
          refine (firstMedia (S + 1 + 1) (some ad) nb nb (fun j => w.heap.size + 1 + (na + j)) sb typ w3 mR hl2 s3).mono ?_
          rintro e w3 ⟨rfl, rfl⟩
          clear mW mL mR s1 s2 s3
          have hW1 := hs.later hbel
          have hW2 := hs2.later hbel
          clear hs hs2
          have hleA := fst_le sa typ
          by_cases hno : fst (sa ++ sb) typ < (sa ++ sb).length
          · have hwant : (ptrAt (fun j => w.heap.size + 1 + j) sa typ = .pointer (some ⟨w.heap.size + 1 + fst (sa ++ sb) typ, 0, none⟩)) ∨ (ptrAt (fun j => w.heap.size + 1 + j) sa typ = .pointer none ∧ ptrAt (fun j => w.heap.size + 1 + (na + j)) sb typ = .pointer (some ⟨w.heap.size + 1 + fst (sa ++ sb) typ, 0, none⟩)) := by
              by_cases hfa : fst sa typ < sa.length
              · left
                rw [ptr_some _ _ _ hfa, fst_app_left sa sb typ hfa]
              · right
                have e := fst_app_right sa sb typ hfa
                have hfb : fst sb typ < sb.length := by rw [e] at hno; simp at hno; omega
                rw [ptr_none _ _ _ hfa, ptr_some _ _ _ hfb, e, hl]
                exact ⟨rfl, rfl⟩
            rw [ptr_some _ _ _ hno]
            have hit := fst_hit (sa ++ sb) typ hno
            have hbef := fst_before (sa ++ sb) typ
            rw [hlen] at hno
            generalize fst (sa ++ sb) typ = f at *
            generalize ptrAt (fun j => w.heap.size + 1 + j) sa typ = vL at *
            generalize ptrAt (fun j => w.heap.size + 1 + (na + j)) sb typ = vR at *
            rcases hwant with rfl | ⟨rfl, rfl⟩
            · clear hleA hl hl2
              go_wp2_with fail
              go_loop [21, 22] (fun q i => ∃ k : Nat, k ≤ f ∧ i = .int .i64 k ∧ q = .int .i64 (-1)) (fun _ i => f + 1 - (intOf i).toNat)
              case atStart => exact ⟨0, Nat.zero_le _, rfl, rfl⟩
              case round =>
                obtain ⟨k, hk, rfl, rfl⟩ := hrel
                have hcp := hP k (by omega)
                have j1 : (k : Int) < (na : Int) + (nb : Int) := by omega
                by_cases hkf : k = f
                · subst hkf
                  clear hP hK
                  go_wp2_with fail
                  refine (typeAt a na cap sa b nb cap2 sb k _ hW1 hW2 (by omega)).mono ?_
                  rintro e w3 ⟨rfl, rfl⟩
                  generalize (sa ++ sb)[k]'(by omega) = s at *
                  go_wp2_with fail
                  go_loop [23] (fun i => ∃ j : Nat, j ≤ k ∧ i = .int .i64 j) (fun i => k - (intOf i).toNat)
                  case atStart => exact ⟨0, Nat.zero_le _, rfl⟩
                  case round =>
                    obtain ⟨j, hj, rfl⟩ := hrel
                    by_cases hlt : j < k
                    · have hb := hbef j hlt (by omega)
                      have hi1 : (j : Int) < (k : Int) := by omega
                      go_wp2_with fail
                      refine (typeAt a na cap sa b nb cap2 sb j _ hW1 hW2 (by omega)).mono ?_
                      rintro e w3 ⟨rfl, rfl⟩
                      generalize (sa ++ sb)[j]'(by omega) = s' at *
                      clear hbef hW1 hW2
                      go_wp2
                      go_round
                      case rel => exact ⟨j + 1, by omega, by go_num⟩
                      case measure => simp [intOf]; omega
                    · have hi1 : ¬ (j : Int) < (k : Int) := by omega
                      clear hbef hW1 hW2
                      go_wp2
                      go_ret
                      exact ⟨rfl, hbel⟩
                · have hno := eq_other w3 (x := w.heap.size + 1 + k) (y := w.heap.size + 1 + f) (by omega) (hK k (by omega)) (hK f (by omega))
                  have hlt : k < f := by omega
                  clear hP hK hkf hbef hW1 hW2 hit
                  go_wp2
                  go_round
                  case rel => exact ⟨k + 1, by omega, by go_num, rfl⟩
                  case measure => simp [intOf]; omega
            · clear hleA hl hl2
              go_wp2_with fail
              go_loop [21, 22] (fun q i => ∃ k : Nat, k ≤ f ∧ i = .int .i64 k ∧ q = .int .i64 (-1)) (fun _ i => f + 1 - (intOf i).toNat)
              case atStart => exact ⟨0, Nat.zero_le _, rfl, rfl⟩
              case round =>
                obtain ⟨k, hk, rfl, rfl⟩ := hrel
                have hcp := hP k (by omega)
                have j1 : (k : Int) < (na : Int) + (nb : Int) := by omega
                by_cases hkf : k = f
                · subst hkf
                  clear hP hK
                  go_wp2_with fail
                  refine (typeAt a na cap sa b nb cap2 sb k _ hW1 hW2 (by omega)).mono ?_
                  rintro e w3 ⟨rfl, rfl⟩
                  generalize (sa ++ sb)[k]'(by omega) = s at *
                  go_wp2_with fail
                  go_loop [23] (fun i => ∃ j : Nat, j ≤ k ∧ i = .int .i64 j) (fun i => k - (intOf i).toNat)
                  case atStart => exact ⟨0, Nat.zero_le _, rfl⟩
                  case round =>
                    obtain ⟨j, hj, rfl⟩ := hrel
                    by_cases hlt : j < k
                    · have hb := hbef j hlt (by omega)
                      have hi1 : (j : Int) < (k : Int) := by omega
                      go_wp2_with fail
                      refine (typeAt a na cap sa b nb cap2 sb j _ hW1 hW2 (by omega)).mono ?_
                      rintro e w3 ⟨rfl, rfl⟩
                      generalize (sa ++ sb)[j]'(by omega) = s' at *
                      clear hbef hW1 hW2
                      go_wp2
                      go_round
                      case rel => exact ⟨j + 1, by omega, by go_num⟩
                      case measure => simp [intOf]; omega
                    · have hi1 : ¬ (j : Int) < (k : Int) := by omega
                      clear hbef hW1 hW2
                      go_wp2
                      go_ret
                      exact ⟨rfl, hbel⟩
                · have hno := eq_other w3 (x := w.heap.size + 1 + k) (y := w.heap.size + 1 + f) (by omega) (hK k (by omega)) (hK f (by omega))
                  have hlt : k < f := by omega
                  clear hP hK hkf hbef hW1 hW2 hit
                  go_wp2
                  go_round
                  case rel => exact ⟨k + 1, by omega, by go_num, rfl⟩
                  case measure => simp [intOf]; omega
          · have hfa : ¬ fst sa typ < sa.length := fun h => hno (by rw [fst_app_left sa sb typ h]; simp; omega)
            have e := fst_app_right sa sb typ hfa
            have hfb : ¬ fst sb typ < sb.length := fun h => hno (by rw [e]; simp; omega)
            have hbef : ∀ i (hi : i < (sa ++ sb).length), ((sa ++ sb)[i].toList == typ.toList) = false := fun i hi => fst_before (sa ++ sb) typ i (by omega) hi
            rw [ptr_none _ _ _ hno, ptr_none _ _ _ hfa, ptr_none _ _ _ hfb]
            clear hP hK hno hfa hfb e hleA hl hl2
            go_wp2_with fail
            go_loop [20] (fun i => ∃ k : Nat, k ≤ na + nb ∧ i = .int .i64 k) (fun i => na + nb - (intOf i).toNat)
            case atStart => exact ⟨0, Nat.zero_le _, rfl⟩
            case round =>
              obtain ⟨k, hk, rfl⟩ := hrel
              by_cases hlt : k < na + nb
              · have hb := hbef k (by omega)
                have hi1 : (k : Int) < (na : Int) + (nb : Int) := by omega
                go_wp2_with fail
                refine (typeAt a na cap sa b nb cap2 sb k _ hW1 hW2 (by omega)).mono ?_
                rintro e w3 ⟨rfl, rfl⟩
                generalize (sa ++ sb)[k]'(by omega) = s at *
                clear hbef hW1 hW2
                go_wp2
                go_round
                case rel => exact ⟨k + 1, by omega, by go_num⟩
                case measure => simp [intOf]; omega
              · have hi1 : ¬ (k : Int) < (na : Int) + (nb : Int) := by omega
                clear hbef hW1 hW2
                go_wp2
                go_ret
                exact ⟨rfl, hbel⟩

set_option maxHeartbeats 1000000 in
set_option maxRecDepth 100000 in
/-- The law at every input. -/
theorem join_all (a : Option Addr) (na cap : Nat) (sa : List ByteArray) (b : Option Addr) (nb cap2 : Nat) (sb : List ByteArray) (typ : ByteArray) (w : World) (hs : Strs w a na sa) (hs2 : Strs w b nb sb) :
    Calls Try.prog 3 #[.slice a na cap, .slice b nb cap2, .string typ] w fun e w' => e = .returned (.bool true) ∧ Below w.heap.size w w' := by
  by_cases hm : na ≤ 1048576 ∧ nb ≤ 1048576
  · by_cases ht : (1048576 : Int) < (typ.size : Int)
    · go_enter Try.func3, Try.ntmps3
      go_wp2_with fail
      refine (zz5 a na cap sa b nb cap2 sb typ _ hs hs2).mono ?_
      rintro e w ⟨(rfl | ⟨rfl, _⟩), rfl⟩
      · go_wp2
        go_ret
        exact ⟨rfl, Below.refl _ _⟩
      · go_wp2
        go_ret
        exact ⟨rfl, Below.refl _ _⟩
    · exact join_any a na cap sa b nb cap2 sb typ w hs hs2 hm.1 hm.2 (by omega)
  · go_enter Try.func3, Try.ntmps3
    go_wp2_with fail
    refine (zz5 a na cap sa b nb cap2 sb typ _ hs hs2).mono ?_
    rintro e w ⟨(rfl | ⟨rfl, hx⟩), rfl⟩
    · clear hm
      go_wp2
      go_ret
      exact ⟨rfl, Below.refl _ _⟩
    · exact absurd hx hm
end Go.Proofs.Qxb6632266a
