/-
  THE WALK of FnCombineOfJoinedListsIsBetterOfParts (function 4), seat b6632316a.
-/
import Derived.Test.Qxb6632316aRecApp
namespace Go.Proofs.Qxb6632316a
open Go.RowKit
set_option linter.unusedVariables false

theorem neq_of_iff {p q : Prop} [hp : Decidable p] [hq : Decidable q] (h : p ↔ q) : (!(decide p == decide q)) = false := by
  have e : decide p = decide q := decide_eq_decide.2 h
  rw [e]
  cases decide q <;> rfl

/-- The winners rise. -/
theorem rise {l : List Nat} (h : l.Pairwise (· < ·)) (i : Nat) (hi : i + 1 < l.length) : l[i] < l[i + 1] := List.pairwise_iff_getElem.1 h i (i + 1) (by omega) hi (by omega)

set_option maxRecDepth 100000 in
set_option maxHeartbeats 2000000 in
theorem joined_any (a : Option Addr) (na cap : Nat) (xs : List Rec) (b : Option Addr) (nb cap2 : Nat) (ys : List Rec) (w : World) (hs : Recs w a na xs) (hs2 : Recs w b nb ys) (hl : na ≤ 1048576) (hl2 : nb ≤ 1048576) :
    Calls Try.prog 4 #[.slice a na cap, .slice b nb cap2] w fun e w' => e = .returned (.bool true) ∧ Below w.heap.size w w' := by
  have hmk : ∀ W : World, (Instr.makeSlice 26 (.int .i64 0) (.int .i64 ((na : Int) + (nb : Int)))).run Try.prog W = .ok (.slice (some ⟨W.heap.size, 0, none⟩) 0 (na + nb)) (W.alloc (.cells (madeCells #[.string ⟨#[]⟩, .int .i64 0, .string ⟨#[]⟩] ((na + nb) * 3)) 39)) := by
    intro W
    have h := make39 0 (na + nb) (by omega) (by omega) W
    rw [Int.natCast_add] at h
    exact h
  go_enter Try.func4, Try.ntmps4
  go_wp2_with fail
  refine (zz10 a na cap xs b nb cap2 ys _ hs hs2).mono ?_
  rintro e w ⟨(rfl | ⟨rfl, _⟩), rfl⟩
  · go_wp2
    go_ret
    exact ⟨rfl, Below.refl _ _⟩
  have hb1 : Below w.heap.size w (w.alloc (.cells #[.int .i64 0] 3)) := (Below.refl _ _).alloc (Nat.le_refl _) _
  have hr1 : (w.alloc (.cells #[.int .i64 0] 3)).rowIs w.heap.size 3 1 (fun _ => .int .i64 0) := World.rowIs_alloc w #[.int .i64 0] 3 (fun _ => .int .i64 0) (fun i hi => by simp at hi; subst hi; rfl)
  have hs1 := hs.later hb1
  have hat : ∀ b off, a = some ⟨b, off, none⟩ → 0 < na → b < w.heap.size := by
    intro b off e h0
    obtain ⟨b', off', e', hlt, _⟩ := hs.hat (by omega)
    rw [e] at e'
    simp at e'
    omega
  have hat2 : ∀ b' off, b = some ⟨b', off, none⟩ → 0 < nb → b' < w.heap.size := by
    intro b off e h0
    obtain ⟨b', off', e', hlt, _⟩ := hs2.hat (by omega)
    rw [e] at e'
    simp at e'
    omega
  go_wp2_with fail
  refine (sizeOK a na cap xs w.heap.size 0 _ hs1 hr1 (by decide) (by decide) hat).mono ?_
  rintro e w2 ⟨r, n, rfl, hn0, hn1, hn2, hr2, hb2, _⟩
  have hbw2 : Below w.heap.size w w2 := hb1.trans hb2
  clear hb1 hr1 hs1 hat hb2
  cases r
  · go_wp2
    go_ret
    exact ⟨rfl, hbw2⟩
  have hn3 : n ≤ 1048576 := hn2 rfl
  clear hn2
  go_wp2_with fail
  refine (sizeOK b nb cap2 ys w.heap.size n _ (hs2.later hbw2) hr2 hn0 hn3 hat2).mono ?_
  rintro e w3 ⟨r, n3, rfl, _, _, _, _, hb3, _⟩
  have hbw3 : Below w.heap.size w w3 := hbw2.trans hb3
  clear hr2 hat2 hb3 hbw2 hn0 hn1 hn3
  cases r
  · go_wp2
    go_ret
    exact ⟨rfl, hbw3⟩
  go_wp2_with fail
  refine (toPolicy a na cap xs _ (hs.later hbw3) hl).mono ?_
  rintro e w4 hT
  obtain ⟨a4, rfl, hA4, hb4⟩ := hT.out hs.hlen hs.hle
  have hbw4 : Below w.heap.size w w4 := hbw3.trans (hb4.mono hbw3.size)
  clear hT hbw3 hb4
  go_wp2_with fail
  refine (toPolicy b nb cap2 ys _ (hs2.later hbw4) hl2).mono ?_
  rintro e w5 hT
  obtain ⟨a5, rfl, hB5, hb5⟩ := hT.out hs2.hlen hs2.hle
  have hbw5 : Below w.heap.size w w5 := hbw4.trans (hb5.mono hbw4.size)
  have hA5 := hA4.later hb5
  clear hT hbw4 hb5 hA4
  go_wp2_with fail
  have hown6 := own_start39 w5 (na + nb) (by omega)
  have hb6 : Below w5.heap.size w5 (w5.alloc (.cells (madeCells #[.string ⟨#[]⟩, .int .i64 0, .string ⟨#[]⟩] ((na + nb) * 3)) 39)) := (Below.refl _ _).alloc (Nat.le_refl _) _
  generalize w5.alloc (.cells (madeCells #[.string ⟨#[]⟩, .int .i64 0, .string ⟨#[]⟩] ((na + nb) * 3)) 39) = w6 at *
  have hbw6 : Below w.heap.size w w6 := hbw5.trans (hb6.mono hbw5.size)
  refine (toPolicy a na cap xs _ (hs.later hbw6) hl).mono ?_
  rintro e w7 hT
  obtain ⟨a7, rfl, hA7, hb7⟩ := hT.out hs.hlen hs.hle
  have hown7 := own_later hown6 hb7
  have hb57 : Below w5.heap.size w5 w7 := hb6.trans (hb7.mono hb6.size)
  have hz57 := hb57.size
  clear hT hb7 hown6 hb6 hbw6
  go_wp2_with (at_builtin; refine app_rec w7 (by rfl) _ _ (by rfl) w5.heap.size w5.heap.size 0 (na + nb) [] (by rfl) hown7 a7 na xs (by rfl) hA7 (by omega) hz57 ?_; intro w8 hown8 hb8)
  rw [Nat.zero_add, List.nil_append] at hown8
  have hb58 : Below w5.heap.size w5 w8 := hb57.trans hb8
  have hbw8 : Below w.heap.size w w8 := hbw5.trans (hb58.mono hbw5.size)
  clear hown7 hb57 hA7 hb8 hz57
  refine (toPolicy b nb cap2 ys _ (hs2.later hbw8) hl2).mono ?_
  rintro e w9 hT
  obtain ⟨a9, rfl, hB9, hb9⟩ := hT.out hs2.hlen hs2.hle
  have hown9 := own_later hown8 hb9
  have hb59 : Below w5.heap.size w5 w9 := hb58.trans (hb9.mono hb58.size)
  have hz59 := hb59.size
  clear hT hb9 hown8 hb58 hbw8
  go_wp2_with (at_builtin; refine app_rec w9 (by rfl) _ _ (by rfl) w5.heap.size w5.heap.size na (na + nb) xs (by rfl) hown9 a9 nb ys (by rfl) hB9 (by omega) hz59 ?_; intro w10 hown10 hb10)
  have hb510 : Below w5.heap.size w5 w10 := hb59.trans hb10
  have hbw10 : Below w.heap.size w w10 := hbw5.trans (hb510.mono hbw5.size)
  have hAB10 := recs_own hown10
  have hA10 := hA5.later hb510
  have hB10 := hB5.later hb510
  clear hown9 hb59 hB9 hb10 hz59 hown10 hb510 hbw5 hA5 hB5
  have hown11 := own_start39 w10 (na + nb) (by omega)
  have hb11 : Below w10.heap.size w10 (w10.alloc (.cells (madeCells #[.string ⟨#[]⟩, .int .i64 0, .string ⟨#[]⟩] ((na + nb) * 3)) 39)) := (Below.refl _ _).alloc (Nat.le_refl _) _
  generalize w10.alloc (.cells (madeCells #[.string ⟨#[]⟩, .int .i64 0, .string ⟨#[]⟩] ((na + nb) * 3)) 39) = w11 at *
  have hbw11 : Below w.heap.size w w11 := hbw10.trans (hb11.mono hbw10.size)
  refine (toPolicy b nb cap2 ys _ (hs2.later hbw11) hl2).mono ?_
  rintro e w12 hT
  obtain ⟨a12, rfl, hB12, hb12⟩ := hT.out hs2.hlen hs2.hle
  have hown12 := own_later hown11 hb12
  have hb1012 : Below w10.heap.size w10 w12 := hb11.trans (hb12.mono hb11.size)
  have hz1012 := hb1012.size
  clear hT hb12 hown11 hb11 hbw11
  go_wp2_with (at_builtin; refine app_rec w12 (by rfl) _ _ (by rfl) w10.heap.size w10.heap.size 0 (na + nb) [] (by rfl) hown12 a12 nb ys (by rfl) hB12 (by omega) hz1012 ?_; intro w13 hown13 hb13)
  rw [Nat.zero_add, List.nil_append] at hown13
  have hb1013 : Below w10.heap.size w10 w13 := hb1012.trans hb13
  have hbw13 : Below w.heap.size w w13 := hbw10.trans (hb1013.mono hbw10.size)
  clear hown12 hb1012 hB12 hb13 hz1012
  refine (toPolicy a na cap xs _ (hs.later hbw13) hl).mono ?_
  rintro e w14 hT
  obtain ⟨a14, rfl, hA14, hb14⟩ := hT.out hs.hlen hs.hle
  have hown14 := own_later hown13 hb14
  have hb1014 : Below w10.heap.size w10 w14 := hb1013.trans (hb14.mono hb1013.size)
  have hz1014 := hb1014.size
  clear hT hb14 hown13 hb1013 hbw13
  go_wp2_with (at_builtin; refine app_rec w14 (by rfl) _ _ (by rfl) w10.heap.size w10.heap.size nb (na + nb) ys (by rfl) hown14 a14 na xs (by rfl) hA14 (by omega) hz1014 ?_; intro w15 hown15 hb15)
  have hb1015 : Below w10.heap.size w10 w15 := hb1014.trans hb15
  have hbw15 : Below w.heap.size w w15 := hbw10.trans (hb1015.mono hbw10.size)
  have hBA15 := recs_own hown15
  have hAB15 := hAB10.later hb1015
  have hA15 := hA10.later hb1015
  have hB15 := hB10.later hb1015
  clear hown14 hb1014 hA14 hb15 hz1014 hown15 hb1015 hbw10 hA10 hB10 hAB10
  obtain ⟨wa, HA⟩ : ∃ q, Hid (comb xs na = q) := ⟨_, rfl⟩
  obtain ⟨wb, HB⟩ : ∃ q, Hid (comb ys nb = q) := ⟨_, rfl⟩
  have eC : comb (xs ++ ys) (na + nb) = jexp xs wa ys wb := by
    rw [← HA.out, ← HB.out, ← hs.hlen, ← hs2.hlen]
    exact comb_join xs ys
  have eD : comb (ys ++ xs) (nb + na) = jexp ys wb xs wa := by
    rw [← HA.out, ← HB.out, ← hs.hlen, ← hs2.hlen]
    exact comb_join ys xs
  obtain ⟨wc, HC⟩ : ∃ q, Hid (jexp xs wa ys wb = q) := ⟨_, rfl⟩
  obtain ⟨wd, HD⟩ : ∃ q, Hid (jexp ys wb xs wa = q) := ⟨_, rfl⟩
  have EC : Hid (comb (xs ++ ys) (na + nb) = wc) := eC.trans HC.out
  have ED : Hid (comb (ys ++ xs) (nb + na) = wd) := eD.trans HD.out
  clear eC eD
  refine (combine a4 na na xs _ hA15 (by omega)).mono ?_
  rintro e w16 ⟨v, rfl, hown, hb16⟩
  have hbw16 : Below w.heap.size w w16 := hbw15.trans (hb16.mono hbw15.size)
  rw [HA.out] at hown
  have hWA16 := win_of hown
  have hAB16 := hAB15.later hb16
  have hBA16 := hBA15.later hb16
  have hB16 := hB15.later hb16
  clear hown hb16 hA15 hAB15 hBA15 hB15 hbw15
  obtain ⟨ga, gcap, rfl, _⟩ := hWA16.form
  go_wp2_with fail
  refine (combine a5 nb nb ys _ hB16 (by omega)).mono ?_
  rintro e w17 ⟨v, rfl, hown, hb17⟩
  have hbw17 : Below w.heap.size w w17 := hbw16.trans (hb17.mono hbw16.size)
  rw [HB.out] at hown
  have hWB17 := win_of hown
  have hWA17 := hWA16.later hb17
  have hAB17 := hAB16.later hb17
  have hBA17 := hBA16.later hb17
  clear hown hb17 hB16 hAB16 hBA16 hWA16 hbw16
  obtain ⟨gb, gcapb, rfl, _⟩ := hWB17.form
  go_wp2_with fail
  refine (combine _ (na + nb) (na + nb) (xs ++ ys) _ hAB17 (by omega)).mono ?_
  rintro e w18 ⟨v, rfl, hown, hb18⟩
  have hbw18 : Below w.heap.size w w18 := hbw17.trans (hb18.mono hbw17.size)
  rw [EC.out] at hown
  have hWC18 := win_of hown
  have hWA18 := hWA17.later hb18
  have hWB18 := hWB17.later hb18
  have hBA18 := hBA17.later hb18
  clear hown hb18 hAB17 hBA17 hWA17 hWB17 hbw17
  obtain ⟨gc, gcapc, rfl, _⟩ := hWC18.form
  go_wp2_with fail
  refine (combine _ (nb + na) (na + nb) (ys ++ xs) _ hBA18 (by omega)).mono ?_
  rintro e w19 ⟨v, rfl, hown, hb19⟩
  have hbw19 : Below w.heap.size w w19 := hbw18.trans (hb19.mono hbw18.size)
  rw [ED.out] at hown
  have hWD19 := win_of hown
  have hWA19 := hWA18.later hb19
  have hWB19 := hWB18.later hb19
  have hWC19 := hWC18.later hb19
  clear hown hb19 hBA18 hWA18 hWB18 hWC18 hbw18
  obtain ⟨gd, gcapd, rfl, _⟩ := hWD19.form
  have hea : 0 < na ↔ 0 < wa.length := by
    have h1 := comb_empty xs na
    rw [HA.out] at h1
    rcases Nat.eq_zero_or_pos na with h3 | h3
    · have := h1.2 h3
      subst this
      simp [h3]
    · have : wa ≠ [] := fun h => by have := h1.1 h; omega
      have := List.length_pos_iff.2 this
      omega
  have heb : 0 < nb ↔ 0 < wb.length := by
    have h1 := comb_empty ys nb
    rw [HB.out] at h1
    rcases Nat.eq_zero_or_pos nb with h3 | h3
    · have := h1.2 h3
      subst this
      simp [h3]
    · have : wb ≠ [] := fun h => by have := h1.1 h; omega
      have := List.length_pos_iff.2 this
      omega
  have hqa := neq_of_iff hea
  have hqb := neq_of_iff heb
  clear hea heb
  go_wp2_with fail
  have hla : wa.length ≤ na := by rw [← HA.out]; exact comb_len xs na
  have hlb : wb.length ≤ nb := by rw [← HB.out]; exact comb_len ys nb
  have hlc : wc.length ≤ na + nb := by rw [← EC.out]; exact comb_len _ _
  have hld : wd.length ≤ nb + na := by rw [← ED.out]; exact comb_len _ _
  have hpa := comb_sorted xs na
  rw [HA.out] at hpa
  have hpb := comb_sorted ys nb
  rw [HB.out] at hpb
  obtain ⟨hsa, hra⟩ := hpa
  obtain ⟨hsb, hrb⟩ := hpb
  refine (inRange _ wa na w19 hWA19 (by omega) (fun i h => hra _ (List.getElem_mem h)) (rise hsa)).mono ?_
  rintro e w20 ⟨rfl, q, HW⟩
  have hb20 : Below w19.heap.size w19 w20 := by rw [HW]; exact below_drewN (Below.refl _ _) q
  have hbw20 : Below w.heap.size w w20 := hbw19.trans (hb20.mono hbw19.size)
  have hWA20 := hWA19.later hb20
  have hWB20 := hWB19.later hb20
  have hWC20 := hWC19.later hb20
  have hWD20 := hWD19.later hb20
  clear HW hb20 hWA19 hWB19 hWC19 hWD19 hbw19 hqa hqb hmk
  have HRA : Hid (∀ i ∈ wa, i < na) := hra
  have HRB : Hid (∀ i ∈ wb, i < nb) := hrb
  have HSB : Hid (wb.Pairwise (· < ·)) := hsb
  clear hra hrb hsb hsa
  go_wp2_with fail
  refine (inRange _ wb nb w20 hWB20 (by omega) (fun i h => HRB.out _ (List.getElem_mem h)) (rise HSB.out)).mono ?_
  rintro e w21 ⟨rfl, q2, HW⟩
  have hb21 : Below w20.heap.size w20 w21 := by rw [HW]; exact below_drewN (Below.refl _ _) q2
  have hbw21 : Below w.heap.size w w21 := hbw20.trans (hb21.mono hbw20.size)
  have hWA21 := hWA20.later hb21
  have hWB21 := hWB20.later hb21
  have hWC21 := hWC20.later hb21
  have hWD21 := hWD20.later hb21
  clear HW hb21 hWA20 hWB20 hWC20 hWD20 hbw20
  go_wp2_with fail
  refine (joinedExpect a na cap xs _ wa b nb cap2 ys _ wb w21 (hs.later hbw21) (hs2.later hbw21) hWA21 hWB21 hl hl2 hla hlb HRA.out HRB.out).mono ?_
  rintro e w22 ⟨v, rfl, ho⟩
  have hb22 := ho.below
  have hown := ho.own
  rw [HC.out] at hown
  have hbw22 : Below w.heap.size w w22 := hbw21.trans (hb22.mono hbw21.size)
  have hWV22 := win_of hown
  have hWA22 := hWA21.later hb22
  have hWB22 := hWB21.later hb22
  have hWC22 := hWC21.later hb22
  have hWD22 := hWD21.later hb22
  clear ho hown hb22 hWA21 hWB21 hWC21 hWD21 hbw21
  go_wp2_with fail
  refine (eqInts _ _ wc w22 hWC22 hWV22 (by omega)).mono ?_
  rintro e w23 ⟨rfl, q3, HW⟩
  have hb23 : Below w22.heap.size w22 w23 := by rw [HW]; exact below_drewN (Below.refl _ _) q3
  have hbw23 : Below w.heap.size w w23 := hbw22.trans (hb23.mono hbw22.size)
  have hWA23 := hWA22.later hb23
  have hWB23 := hWB22.later hb23
  have hWD23 := hWD22.later hb23
  clear HW hb23 hWA22 hWB22 hWC22 hWD22 hWV22 hbw22
  go_wp2_with fail
  refine (joinedExpect b nb cap2 ys _ wb a na cap xs _ wa w23 (hs2.later hbw23) (hs.later hbw23) hWB23 hWA23 hl2 hl hlb hla HRB.out HRA.out).mono ?_
  rintro e w24 ⟨v2, rfl, ho⟩
  have hb24 := ho.below
  have hown := ho.own
  rw [HD.out] at hown
  have hbw24 : Below w.heap.size w w24 := hbw23.trans (hb24.mono hbw23.size)
  have hWV24 := win_of hown
  have hWD24 := hWD23.later hb24
  clear ho hown hb24 hWA23 hWB23 hWD23 hbw23
  go_wp2_with fail
  refine (eqInts _ _ wd w24 hWD24 hWV24 (by omega)).mono ?_
  rintro e w25 ⟨rfl, q4, HW⟩
  have hb25 : Below w24.heap.size w24 w25 := by rw [HW]; exact below_drewN (Below.refl _ _) q4
  have hbw25 : Below w.heap.size w w25 := hbw24.trans (hb25.mono hbw24.size)
  clear HW hb25 hWD24 hWV24 hbw24
  go_wp2
  go_ret
  exact ⟨rfl, hbw25⟩

/-- The law at every input. -/
theorem joined_all (a : Option Addr) (na cap : Nat) (xs : List Rec) (b : Option Addr) (nb cap2 : Nat) (ys : List Rec) (w : World) (hs : Recs w a na xs) (hs2 : Recs w b nb ys) :
    Calls Try.prog 4 #[.slice a na cap, .slice b nb cap2] w fun e w' => e = .returned (.bool true) ∧ Below w.heap.size w w' := by
  by_cases hm : na ≤ 1048576 ∧ nb ≤ 1048576
  · exact joined_any a na cap xs b nb cap2 ys w hs hs2 hm.1 hm.2
  · go_enter Try.func4, Try.ntmps4
    go_wp2_with fail
    refine (zz10 a na cap xs b nb cap2 ys _ hs hs2).mono ?_
    rintro e w ⟨(rfl | ⟨rfl, hx⟩), rfl⟩
    · go_wp2
      go_ret
      exact ⟨rfl, Below.refl _ _⟩
    · exact absurd hx hm
end Go.Proofs.Qxb6632316a
