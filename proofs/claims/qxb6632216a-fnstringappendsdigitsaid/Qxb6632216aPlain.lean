/-
  PLAIN MATHEMATICS for seat b6632216a: words, the division of a two-word number by ten as math/bits.Div64 carries it out, decimal texts. No program in sight.
-/
import Derived.Laws.BitsAllLaws
namespace Go.Proofs.Qxb6632216a
open Go
set_option linter.unusedVariables false

theorem and32 (x : Int) (h0 : 0 ≤ x) (h1 : x < 18446744073709551616) : bits .and .u64 x 4294967295 = x % 4294967296 := by
  rw [u64_and x 4294967295 h0 h1 (by decide) (by decide)]
  have e : (4294967295 : Int).toNat = 2 ^ 32 - 1 := by decide
  rw [e, Nat.and_two_pow_sub_one_eq_mod]
  omega

theorem or_apart (a b : Int) (k : Nat) (ha : 0 ≤ a) (h0 : 0 ≤ b) (hb : b < 2 ^ k) (hab : a * 2 ^ k < 18446744073709551616) (hb1 : b < 18446744073709551616) : bits .or .u64 (a * 2 ^ k) b = a * 2 ^ k + b := by
  obtain ⟨a, rfl⟩ := Int.eq_ofNat_of_zero_le ha
  obtain ⟨b, rfl⟩ := Int.eq_ofNat_of_zero_le h0
  have e : ((a : Int) * 2 ^ k) = ((a * 2 ^ k : Nat) : Int) := by push_cast; rfl
  rw [e] at hab ⊢
  have hb' : b < 2 ^ k := by
    have : ((b : Int)) < ((2 ^ k : Nat) : Int) := by push_cast; exact hb
    exact_mod_cast this
  have hab' : a * 2 ^ k < 18446744073709551616 := by omega
  rw [u64_or_nat _ _ hab' (by omega)]
  have := Nat.shiftLeft_add_eq_or_of_lt hb' a
  rw [Nat.shiftLeft_eq] at this
  rw [← this]
  push_cast
  rfl

theorem or60 (hi lo : Int) (g0 : 0 ≤ hi) (g1 : hi < 10) (h0 : 0 ≤ lo) (h1 : lo ≤ 18446744073709551615) : bits .or .u64 (hi * 1152921504606846976) (lo / 16) = hi * 1152921504606846976 + lo / 16 :=
  or_apart hi (lo / 16) 60 g0 (by omega) (by omega) (by omega) (by omega)

theorem or32 (a b : Int) (g0 : 0 ≤ a) (g1 : a < 4294967296) (h0 : 0 ≤ b) (h1 : b < 4294967296) : bits .or .u64 (a * 4294967296) b = a * 4294967296 + b :=
  or_apart a b 32 g0 h0 (by omega) (by omega) (by omega)

/-! ### math/bits.Div64 by ten: N = hi * 2^64 + lo -/
theorem ar_u (hi lo : Int) (g0 : 0 ≤ hi) (g1 : hi < 10) (h0 : 0 ≤ lo) (h1 : lo ≤ 18446744073709551615) :
    hi * 1152921504606846976 + lo / 16 = (hi * 18446744073709551616 + lo) / 16 := by omega
theorem ar_v (hi lo : Int) (h0 : 0 ≤ lo) (h1 : lo ≤ 18446744073709551615) :
    lo * 1152921504606846976 % 18446744073709551616 = (hi * 18446744073709551616 + lo) % 16 * 1152921504606846976 := by omega
theorem ar_x (N : Int) (h0 : 0 ≤ N) (h1 : N < 184467440737095516160) :
    ((N / 16 * 4294967296 % 18446744073709551616 + N % 16 * 1152921504606846976 / 4294967296) % 18446744073709551616 - (N / 16 / 2684354560 * 11529215046068469760) % 18446744073709551616) % 18446744073709551616 = N % 42949672960 * 268435456 := by
  have e1 : N / 16 / 2684354560 = N / 42949672960 := by omega
  have e2 : N % 16 * 1152921504606846976 / 4294967296 = N % 16 * 268435456 := by omega
  rw [e1, e2]
  have e3 : N / 16 * 4294967296 + N % 16 * 268435456 = N * 268435456 := by omega
  have e4 : N = N / 42949672960 * 42949672960 + N % 42949672960 := by omega
  omega
theorem ar_z (r : Int) (h0 : 0 ≤ r) (h1 : r < 42949672960) :
    (r * 268435456 * 4294967296 % 18446744073709551616 % 18446744073709551616 - (r * 268435456 / 2684354560 * 11529215046068469760) % 18446744073709551616) % 18446744073709551616 = r % 10 * 1152921504606846976 := by
  have e1 : r * 268435456 / 2684354560 = r / 10 := by omega
  rw [e1]
  omega

/-! ### Three words and the number that they spell -/
structure Words (a b c V : Int) : Prop where
  a0 : 0 ≤ a
  a1 : a ≤ 18446744073709551615
  b0 : 0 ≤ b
  b1 : b ≤ 18446744073709551615
  c0 : 0 ≤ c
  c1 : c ≤ 18446744073709551615
  eq : a + b * 18446744073709551616 + c * 340282366920938463463374607431768211456 = V

theorem words_ex (V : Int) (h0 : 0 ≤ V) (h1 : V < 6277101735386680763835789423207666416102355444464034512896) : ∃ a b c, Words a b c V :=
  ⟨V % 18446744073709551616, V / 18446744073709551616 % 18446744073709551616, V / 340282366920938463463374607431768211456, by omega, by omega, by omega, by omega, by omega, by omega, by omega⟩

theorem Words.lo {a b c V : Int} (h : Words a b c V) : 0 ≤ V := by
  obtain ⟨h1, h2, h3, h4, h5, h6, h7⟩ := h
  omega

theorem Words.hi {a b c V : Int} (h : Words a b c V) : V < 6277101735386680763835789423207666416102355444464034512896 := by
  obtain ⟨h1, h2, h3, h4, h5, h6, h7⟩ := h
  omega

theorem Words.zero_iff {a b c V : Int} (h : Words a b c V) : V = 0 ↔ a = 0 ∧ b = 0 ∧ c = 0 := by
  obtain ⟨h1, h2, h3, h4, h5, h6, h7⟩ := h
  omega

/-- The division of three words by ten, word by word from the top. -/
theorem words_div {a b c V : Int} (h : Words a b c V) {a' b' c' : Int} (h' : Words a' b' c' (V / 10)) :
    c / 10 = c' ∧ (c % 10 * 18446744073709551616 + b) / 10 = b' ∧ ((c % 10 * 18446744073709551616 + b) % 10 * 18446744073709551616 + a) / 10 = a' ∧ ((c % 10 * 18446744073709551616 + b) % 10 * 18446744073709551616 + a) % 10 = V % 10 := by
  obtain ⟨h1, h2, h3, h4, h5, h6, h7⟩ := h
  obtain ⟨g1, g2, g3, g4, g5, g6, g7⟩ := h'
  have k1 : 0 ≤ c / 10 ∧ c / 10 ≤ 18446744073709551615 ∧ 0 ≤ c % 10 ∧ c % 10 ≤ 9 ∧ c = c / 10 * 10 + c % 10 := by omega
  generalize c % 10 = r1 at *
  generalize c / 10 = q1 at *
  obtain ⟨k1, k2, k3, k4, k5⟩ := k1
  have m1 : 0 ≤ (r1 * 18446744073709551616 + b) / 10 ∧ (r1 * 18446744073709551616 + b) / 10 ≤ 18446744073709551615 ∧ 0 ≤ (r1 * 18446744073709551616 + b) % 10 ∧ (r1 * 18446744073709551616 + b) % 10 ≤ 9 ∧ r1 * 18446744073709551616 + b = (r1 * 18446744073709551616 + b) / 10 * 10 + (r1 * 18446744073709551616 + b) % 10 := by omega
  generalize (r1 * 18446744073709551616 + b) % 10 = r2 at *
  generalize (r1 * 18446744073709551616 + b) / 10 = q2 at *
  obtain ⟨m1, m2, m3, m4, m5⟩ := m1
  have n1 : 0 ≤ (r2 * 18446744073709551616 + a) / 10 ∧ (r2 * 18446744073709551616 + a) / 10 ≤ 18446744073709551615 ∧ 0 ≤ (r2 * 18446744073709551616 + a) % 10 ∧ (r2 * 18446744073709551616 + a) % 10 ≤ 9 ∧ r2 * 18446744073709551616 + a = (r2 * 18446744073709551616 + a) / 10 * 10 + (r2 * 18446744073709551616 + a) % 10 := by omega
  generalize (r2 * 18446744073709551616 + a) % 10 = r3 at *
  generalize (r2 * 18446744073709551616 + a) / 10 = q3 at *
  obtain ⟨n1, n2, n3, n4, n5⟩ := n1
  have hV : V = 10 * (q3 + q2 * 18446744073709551616 + q1 * 340282366920938463463374607431768211456) + r3 := by omega
  have hd : V / 10 = q3 + q2 * 18446744073709551616 + q1 * 340282366920938463463374607431768211456 := by omega
  have hm : V % 10 = r3 := by omega
  rw [hd] at g7
  clear h7 hV hd k5 m5 n5
  have u3 : q1 = c' := by omega
  subst u3
  have u2 : q2 = b' := by omega
  subst u2
  exact ⟨rfl, rfl, by omega, hm.symm⟩

/-! ### Six limbs of 32 bits and the number that they spell -/
structure Limbs (l0 l1 l2 l3 l4 l5 V : Int) : Prop where
  a0 : 0 ≤ l0
  a1 : l0 ≤ 4294967295
  b0 : 0 ≤ l1
  b1 : l1 ≤ 4294967295
  c0 : 0 ≤ l2
  c1 : l2 ≤ 4294967295
  d0 : 0 ≤ l3
  d1 : l3 ≤ 4294967295
  e0 : 0 ≤ l4
  e1 : l4 ≤ 4294967295
  f0 : 0 ≤ l5
  f1 : l5 ≤ 4294967295
  eq : l0 + l1 * 4294967296 + l2 * 18446744073709551616 + l3 * 79228162514264337593543950336 + l4 * 340282366920938463463374607431768211456 + l5 * 1461501637330902918203684832716283019655932542976 = V

/-- One limb: times ten, plus a carry. -/
structure Put (l c n c' : Int) : Prop where
  low : bits .and .u64 (l * 10 + c) 4294967295 = n
  high : (l * 10 + c) / 4294967296 = c'
  n0 : 0 ≤ n
  n1 : n ≤ 4294967295
  k0 : 0 ≤ c'
  k1 : c' ≤ 9
  eq : n + c' * 4294967296 = l * 10 + c

theorem put_ex (l c : Int) (h0 : 0 ≤ l) (h1 : l ≤ 4294967295) (c0 : 0 ≤ c) (c1 : c ≤ 9) : ∃ n c', Put l c n c' :=
  ⟨(l * 10 + c) % 4294967296, (l * 10 + c) / 4294967296, and32 _ (by omega) (by omega), rfl, by omega, by omega, by omega, by omega, by omega⟩

theorem limbs_step {l0 l1 l2 l3 l4 l5 V c0 n0 n1 n2 n3 n4 n5 k1 k2 k3 k4 k5 k6 : Int} (h : Limbs l0 l1 l2 l3 l4 l5 V) (p0 : Put l0 c0 n0 k1) (p1 : Put l1 k1 n1 k2) (p2 : Put l2 k2 n2 k3) (p3 : Put l3 k3 n3 k4) (p4 : Put l4 k4 n4 k5) (p5 : Put l5 k5 n5 k6) :
    Limbs n0 n1 n2 n3 n4 n5 (V * 10 + c0 - k6 * 6277101735386680763835789423207666416102355444464034512896) := by
  have e0 := p0.eq
  have e1 := p1.eq
  have e2 := p2.eq
  have e3 := p3.eq
  have e4 := p4.eq
  have e5 := p5.eq
  have e := h.eq
  exact ⟨p0.n0, p0.n1, p1.n0, p1.n1, p2.n0, p2.n1, p3.n0, p3.n1, p4.n0, p4.n1, p5.n0, p5.n1, by omega⟩

/-- No carry is left where the new number is small. -/
theorem limbs_small {n0 n1 n2 n3 n4 n5 V k : Int} (h : Limbs n0 n1 n2 n3 n4 n5 (V - k * 6277101735386680763835789423207666416102355444464034512896)) (hk : 0 ≤ k) (hV : V < 1461501637330902918203684832716283019655932542976) : k = 0 ∧ n5 = 0 ∧ Limbs n0 n1 n2 n3 n4 n5 V := by
  obtain ⟨h1, h2, h3, h4, h5, h6, h7, h8, h9, h10, h11, h12, h13⟩ := h
  have hk0 : k = 0 := by omega
  subst hk0
  exact ⟨rfl, by omega, h1, h2, h3, h4, h5, h6, h7, h8, h9, h10, h11, h12, by omega⟩

/-- The limbs of three words. -/
theorem limbs_words {n0 n1 n2 n3 n4 n5 a b c V : Int} (h : Limbs n0 n1 n2 n3 n4 n5 V) (w : Words a b c V) (hc : c ≤ 4294967295) : n0 = a % 4294967296 ∧ n1 = a / 4294967296 ∧ n2 = b % 4294967296 ∧ n3 = b / 4294967296 ∧ n4 = c ∧ n5 = 0 := by
  obtain ⟨h1, h2, h3, h4, h5, h6, h7, h8, h9, h10, h11, h12, h13⟩ := h
  obtain ⟨g1, g2, g3, g4, g5, g6, g7⟩ := w
  have ea : a = a % 4294967296 + a / 4294967296 * 4294967296 := by omega
  have eb : b = b % 4294967296 + b / 4294967296 * 4294967296 := by omega
  have ra : 0 ≤ a % 4294967296 ∧ a % 4294967296 ≤ 4294967295 ∧ 0 ≤ a / 4294967296 ∧ a / 4294967296 ≤ 4294967295 := by omega
  have rb : 0 ≤ b % 4294967296 ∧ b % 4294967296 ≤ 4294967295 ∧ 0 ≤ b / 4294967296 ∧ b / 4294967296 ≤ 4294967295 := by omega
  generalize a % 4294967296 = a0 at *
  generalize a / 4294967296 = a1 at *
  generalize b % 4294967296 = b0 at *
  generalize b / 4294967296 = b1 at *
  subst ea
  subst eb
  have u5 : n5 = 0 := by omega
  subst u5
  have u4 : n4 = c := by omega
  subst u4
  have u3 : n3 = b1 := by omega
  subst u3
  have u2 : n2 = b0 := by omega
  subst u2
  have u1 : n1 = a1 := by omega
  subst u1
  exact ⟨by omega, rfl, rfl, rfl, rfl, rfl⟩

theorem words_limbs {a b c V : Int} (w : Words a b c V) (hc : c ≤ 4294967295) : Limbs (a % 4294967296) (a / 4294967296) (b % 4294967296) (b / 4294967296) c 0 V := by
  obtain ⟨g1, g2, g3, g4, g5, g6, g7⟩ := w
  exact ⟨by omega, by omega, by omega, by omega, by omega, by omega, by omega, by omega, by omega, by omega, by omega, by omega, by omega⟩

theorem limbs_back {n0 n1 n2 n3 n4 V : Int} (h : Limbs n0 n1 n2 n3 n4 0 V) : Words (n0 + n1 * 4294967296) (n2 + n3 * 4294967296) n4 V ∧ V < 1461501637330902918203684832716283019655932542976 := by
  obtain ⟨h1, h2, h3, h4, h5, h6, h7, h8, h9, h10, h11, h12, h13⟩ := h
  exact ⟨⟨by omega, by omega, by omega, by omega, by omega, by omega, by omega⟩, by omega⟩

theorem words_small {a b c V : Int} (w : Words a b c V) (hc : c ≤ 4294967295) : V < 1461501637330902918203684832716283019655932542976 := by
  obtain ⟨g1, g2, g3, g4, g5, g6, g7⟩ := w
  omega
end Go.Proofs.Qxb6632216a
