/-
  THE WALK of FnStringAppendsDigit (function 4), seat b6632216a.
-/
import Derived.Test.Qxb6632216aBack
namespace Go.Proofs.Qxb6632216a
open Go.RowKit Go.WideShapes
set_option linter.unusedVariables false

theorem or32' (a b : Int) (g0 : 0 ≤ a) (g1 : a ≤ 4294967295) (h0 : 0 ≤ b) (h1 : b ≤ 4294967295) : bits .or .u64 b (a * 4294967296) = b + a * 4294967296 := by
  have h := or32 a b g0 (by omega) h0 (by omega)
  rw [u64_or _ _ (by omega) (by omega) (by omega) (by omega), Nat.or_comm, ← u64_or _ _ (by omega) (by omega) (by omega) (by omega), h]
  omega

/-- 'string([]byte{byte('0' + d)})'. -/
theorem conv_digit (d : Int) (d0 : 0 ≤ d) (d1 : d ≤ 9) (w1 : World) : ∀ cap t, (convert 30 9 (.slice (some ⟨w1.heap.size, 0, none⟩) 1 cap)).run Try.prog (w1.alloc (.cells #[.int .u8 (48 + d)] t)) = .ok (.string (bstr [dg d])) (w1.alloc (.cells #[.int .u8 (48 + d)] t)) := by
  intro cap t
  refine run_convert_bytes_back (P := Try.prog) (w1.alloc (.cells #[.int .u8 (48 + d)] t)) 30 9 5 ⟨w1.heap.size, 0, none⟩ cap [dg d] Try.underlying30 Try.underlying5 Try.underlying9 ?_
  intro j hj
  have hj0 : j = 0 := by simp at hj; omega
  subst hj0
  simp only [List.getElem_cons_zero]
  rw [add_plain, dg_toNat d d0 d1]
  simp [go_sem]

set_option maxHeartbeats 1000000 in
theorem app_any (a b c d V : Int) (h : Words a b c V) (hc : c ≤ 4294967295) (d0 : 0 ≤ d) (d1 : d ≤ 9) (hV : 0 < V) (w : World) :
    Calls Try.prog 4 #[.int .u64 a, .int .u64 b, .int .u64 c, .int .u64 d] w fun e w' => e = .returned (.bool true) ∧ Below w.heap.size w w' := by
  have ha := and32 a h.a0 (by have := h.a1; omega)
  have hb := and32 b h.b0 (by have := h.b1; omega)
  have ha0 := h.a0
  have ha1 := h.a1
  have hb0 := h.b0
  have hb1 := h.b1
  have hc0 := h.c0
  have hL := words_limbs h hc
  generalize hl0 : a % 4294967296 = l0 at *
  generalize hl1 : a / 4294967296 = l1 at *
  generalize hl2 : b % 4294967296 = l2 at *
  generalize hl3 : b / 4294967296 = l3 at *
  obtain ⟨n0, c1, p0⟩ := put_ex l0 d hL.a0 hL.a1 (by omega) (by omega)
  obtain ⟨n1, c2, p1⟩ := put_ex l1 c1 hL.b0 hL.b1 p0.k0 p0.k1
  obtain ⟨n2, c3, p2⟩ := put_ex l2 c2 hL.c0 hL.c1 p1.k0 p1.k1
  obtain ⟨n3, c4, p3⟩ := put_ex l3 c3 hL.d0 hL.d1 p2.k0 p2.k1
  obtain ⟨n4, c5, p4⟩ := put_ex c c4 hL.e0 hL.e1 p3.k0 p3.k1
  obtain ⟨n5, c6, p5⟩ := put_ex 0 c5 hL.f0 hL.f1 p4.k0 p4.k1
  have hN := limbs_step hL p0 p1 p2 p3 p4 p5
  obtain ⟨p01, p02, p03, p04, p05, p06, p07⟩ := p0
  obtain ⟨p11, p12, p13, p14, p15, p16, p17⟩ := p1
  obtain ⟨p21, p22, p23, p24, p25, p26, p27⟩ := p2
  obtain ⟨p31, p32, p33, p34, p35, p36, p37⟩ := p3
  obtain ⟨p41, p42, p43, p44, p45, p46, p47⟩ := p4
  obtain ⟨p51, p52, p53, p54, p55, p56, p57⟩ := p5
  obtain ⟨a0, a1, b0, b1, e0, e1, f0, f1, g0, g1, i0, i1, i2⟩ := hL
  clear p07 p17 p27 p37 p47 p57 i2
  simp only [Int.zero_mul, Int.zero_add] at p51 p52
  have hc6 : c6 = 0 := by omega
  subst hc6
  by_cases hn5 : n5 = 0
  · subst hn5
    have hN' : Limbs n0 n1 n2 n3 n4 0 (V * 10 + d) := by simpa using hN
    obtain ⟨hWd, hsm⟩ := limbs_back hN'
    have ho1 := or32' n1 n0 p13 p14 p03 p04
    have ho2 := or32' n3 n2 p33 p34 p23 p24
    have HV : Hid (V < 1461501637330902918203684832716283019655932542976) := words_small h hc
    have HS : Hid (V * 10 + d < 1461501637330902918203684832716283019655932542976) := hsm
    have hab : (a != 0) = true ∨ ((a != 0) = false ∧ (b != 0) = true) ∨ ((a != 0) = false ∧ (b != 0) = false ∧ (c != 0) = true) := by
      have := h.zero_iff
      by_cases ea : a = 0
      · by_cases eb : b = 0
        · by_cases ec : c = 0
          · have := this.2 ⟨ea, eb, ec⟩; omega
          · exact .inr (.inr ⟨by simp [ea], by simp [eb], by simp [ec]⟩)
        · exact .inr (.inl ⟨by simp [ea], by simp [eb]⟩)
      · exact .inl (by simp [ea])
    have Hab : Hid ((a != 0) = true ∨ ((a != 0) = false ∧ (b != 0) = true) ∨ ((a != 0) = false ∧ (b != 0) = false ∧ (c != 0) = true)) := hab
    clear hN hN' hsm hab
    go_enter Try.func4, Try.ntmps4
    go_wp2_with fail
    refine wp_loop_rounds 7 ?_
    rw [rounds_succ]
    go_wp2_with fail
    rw [rounds_succ]
    go_wp2_with fail
    rw [rounds_succ]
    go_wp2_with fail
    rw [rounds_succ]
    go_wp2_with fail
    rw [rounds_succ]
    go_wp2_with fail
    rw [rounds_succ]
    go_wp2_with fail
    rw [rounds_succ]
    go_wp2_with fail
    refine (newID_any _ _ _ _).mono ?_
    rintro e w1 ⟨rfl, o1, rfl⟩
    go_wp2_with fail
    refine (string_any _ _ _ (V * 10 + d) hWd HS.out _).mono ?_
    rintro e w1 ⟨rfl, hb⟩
    have hsum : (bstr (D V)).size + (bstr [dg d]).size ≤ 50 := by
      have := dec_len_le 49 V
      simp only [bstr, ByteArray.size, List.size_toArray, D, List.length_singleton]
      omega
    rw [show bstr (D (V * 10 + d)) = bstr (D V) ++ bstr [dg d] from by
      rw [show V * 10 + d = 10 * V + d from by omega, D_app V d hV d0 d1 (by have := HS.out; omega)]
      simp [bstr, ByteArray.ext_iff]]
    have hcv := conv_digit d d0 d1 w1
    have HB : Hid (Below w.heap.size w w1) := by
      have : Below w.heap.size w w1 := ((((Below.refl _ _).alloc (Nat.le_refl _) _).alloc (by simp) _)).trans (hb.mono (by simp; omega))
      exact this
    clear hb
    rcases Hab.out with q1 | ⟨q1, q2⟩ | ⟨q1, q2, q3⟩
    all_goals
      go_wp2_with fail
      refine (newID_any _ _ _ _).mono ?_
      rintro e w2 ⟨rfl, o2, rfl⟩
      go_wp2_with fail
      refine (string_any _ _ _ V h HV.out _).mono ?_
      rintro e w2 ⟨rfl, hb2⟩
      go_wp2
      go_ret
      refine ⟨rfl, ?_⟩
      · exact HB.out.trans (((Below.refl _ _).alloc HB.out.size _).alloc (by have := HB.out.size; simp; omega) _ |>.trans (hb2.mono (by have := HB.out.size; simp; omega)))
  · have hn5' : (n5 != 0) = true := by rw [bne_iff_ne]; exact hn5
    go_enter Try.func4, Try.ntmps4
    go_wp2_with fail
    refine wp_loop_rounds 7 ?_
    rw [rounds_succ]
    go_wp2_with fail
    rw [rounds_succ]
    go_wp2_with fail
    rw [rounds_succ]
    go_wp2_with fail
    rw [rounds_succ]
    go_wp2_with fail
    rw [rounds_succ]
    go_wp2_with fail
    rw [rounds_succ]
    go_wp2_with fail
    rw [rounds_succ]
    go_wp2_with fail
    go_ret
    exact ⟨rfl, (Below.refl _ _).alloc (Nat.le_refl _) _⟩

set_option maxHeartbeats 1000000 in
/-- The law at zero. -/
theorem app_zero (d : Int) (d0 : 0 ≤ d) (d1 : d ≤ 9) (w : World) :
    Calls Try.prog 4 #[.int .u64 0, .int .u64 0, .int .u64 0, .int .u64 d] w fun e w' => e = .returned (.bool true) ∧ Below w.heap.size w w' := by
  have r1 : bits .and .u64 d 4294967295 = d := by rw [and32 d d0 (by omega)]; omega
  have r2 : d / 4294967296 = 0 := by omega
  have r3 : bits .and .u64 0 4294967295 = 0 := by rw [and32 0 (by decide) (by decide)]; decide
  have r4 : bits .or .u64 d 0 = d := by simpa using or32' 0 d (by decide) (by decide) d0 (by omega)
  have r5 : bits .or .u64 0 0 = 0 := by simpa using or32' 0 0 (by decide) (by decide) (by decide) (by decide)
  have hW : Words d 0 0 d := ⟨d0, by omega, by decide, by decide, by decide, by decide, by omega⟩
  go_enter Try.func4, Try.ntmps4
  go_wp2_with fail
  refine wp_loop_rounds 7 ?_
  rw [rounds_succ]
  go_wp2_with fail
  rw [rounds_succ]
  go_wp2_with fail
  rw [rounds_succ]
  go_wp2_with fail
  rw [rounds_succ]
  go_wp2_with fail
  rw [rounds_succ]
  go_wp2_with fail
  rw [rounds_succ]
  go_wp2_with fail
  rw [rounds_succ]
  go_wp2_with fail
  refine (newID_any _ _ _ _).mono ?_
  rintro e w1 ⟨rfl, o1, rfl⟩
  go_wp2_with fail
  refine (string_any _ _ _ d hW (by omega) _).mono ?_
  rintro e w1 ⟨rfl, hb⟩
  rw [D_digit d d0 d1]
  have hcv := conv_digit d d0 d1 w1
  have HB : Hid (Below w.heap.size w w1) := by
    have : Below w.heap.size w w1 := ((((Below.refl _ _).alloc (Nat.le_refl _) _).alloc (by simp) _)).trans (hb.mono (by simp; omega))
    exact this
  clear hb
  go_wp2
  go_ret
  exact ⟨rfl, HB.out.alloc HB.out.size _⟩

/-- The law at every input within the bounds. -/
theorem app_all (a b c d : Int) (a0 : 0 ≤ a) (a1 : a ≤ 18446744073709551615) (b0 : 0 ≤ b) (b1 : b ≤ 18446744073709551615) (c0 : 0 ≤ c) (hc : c ≤ 4294967295) (d0 : 0 ≤ d) (d1 : d ≤ 9) (w : World) :
    Calls Try.prog 4 #[.int .u64 a, .int .u64 b, .int .u64 c, .int .u64 d] w fun e w' => e = .returned (.bool true) ∧ Below w.heap.size w w' := by
  have h : Words a b c _ := ⟨a0, a1, b0, b1, c0, by omega, rfl⟩
  rcases Int.lt_or_eq_of_le h.lo with hp | hz
  · exact app_any a b c d _ h hc d0 d1 hp w
  · obtain ⟨rfl, rfl, rfl⟩ := h.zero_iff.1 hz.symm
    exact app_zero d d0 d1 w
end Go.Proofs.Qxb6632216a
