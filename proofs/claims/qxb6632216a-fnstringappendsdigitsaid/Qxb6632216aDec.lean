/-
  PLAIN MATHEMATICS for seat b6632216a: the decimal text of a number. No program in sight.
-/
import Derived.Test.Qxb6632216aPlain
namespace Go.Proofs.Qxb6632216a
set_option linter.unusedVariables false

/-- The digit d as a byte. -/
def dg (d : Int) : UInt8 := UInt8.ofNat (48 + d).toNat

theorem dg_toNat (d : Int) (h0 : 0 ≤ d) (h1 : d ≤ 9) : ((dg d).toNat : Int) = 48 + d := by
  have : (48 + d).toNat < 256 := by omega
  simp only [dg, UInt8.toNat_ofNat']
  omega

/-- The decimal text, with fuel. -/
def dec : Nat → Int → List UInt8
  | 0, _ => []
  | f + 1, V => if V / 10 = 0 then [dg (V % 10)] else dec f (V / 10) ++ [dg (V % 10)]

theorem dec_last (f : Nat) (V : Int) (h : V / 10 = 0) : dec (f + 1) V = [dg (V % 10)] := by simp [dec, h]
theorem dec_more (f : Nat) (V : Int) (h : V / 10 ≠ 0) : dec (f + 1) V = dec f (V / 10) ++ [dg (V % 10)] := by simp [dec, h]

/-- Enough fuel is enough. -/
theorem dec_fuel : ∀ (f g : Nat) (V : Int), 0 ≤ V → V < 10 ^ f → V < 10 ^ g → 0 < f → 0 < g → dec f V = dec g V
  | 0, _, _, _, _, _, h, _ => absurd h (by omega)
  | _ + 1, 0, _, _, _, _, _, h => absurd h (by omega)
  | f + 1, g + 1, V, h0, hf, hg, _, _ => by
    by_cases h : V / 10 = 0
    · rw [dec_last _ _ h, dec_last _ _ h]
    · rw [dec_more _ _ h, dec_more _ _ h]
      rw [Int.pow_succ] at hf hg
      have h2 : V / 10 < 10 ^ f := by omega
      have h3 : V / 10 < 10 ^ g := by omega
      have hf0 : 0 < f := by
        rcases Nat.eq_zero_or_pos f with rfl | h'
        · simp at h2; omega
        · exact h'
      have hg0 : 0 < g := by
        rcases Nat.eq_zero_or_pos g with rfl | h'
        · simp at h3; omega
        · exact h'
      rw [dec_fuel f g (V / 10) (by omega) h2 h3 hf0 hg0]

/-- The decimal text of a number below 2^160. -/
def D (V : Int) : List UInt8 := dec 49 V

theorem lim160 {V : Int} (h : V < 1461501637330902918203684832716283019655932542976) : V < 10 ^ 49 := by
  have e : (10 : Int) ^ 49 = 10000000000000000000000000000000000000000000000000 := by decide
  omega

/-- Ten times V and a digit: the text of V and the digit. -/
theorem D_app (V d : Int) (h0 : 0 < V) (d0 : 0 ≤ d) (d1 : d ≤ 9) (h : 10 * V + d < 1461501637330902918203684832716283019655932542976) : D (10 * V + d) = D V ++ [dg d] := by
  have e1 : (10 * V + d) / 10 = V := by omega
  have e2 : (10 * V + d) % 10 = d := by omega
  have e : (10 : Int) ^ 48 = 1000000000000000000000000000000000000000000000000 := by decide
  rw [D, dec_more 48 _ (by omega), e1, e2, dec_fuel 48 49 V (by omega) (by omega) (lim160 (by omega)) (by decide) (by decide)]
  rfl
theorem D_digit (d : Int) (d0 : 0 ≤ d) (d1 : d ≤ 9) : D d = [dg d] := by
  have e2 : d % 10 = d := by omega
  rw [D, dec_last 48 d (by omega), e2]

/-! ### Reading it back -/
/-- One digit more. -/
def eat (acc : Int) (c : UInt8) : Int := acc * 10 + ((c.toNat : Int) - 48)
def val (l : List UInt8) : Int := l.foldl eat 0
theorem val_snoc (l : List UInt8) (c : UInt8) : val (l ++ [c]) = val l * 10 + ((c.toNat : Int) - 48) := by simp [val, eat]

def Digits (l : List UInt8) : Prop := ∀ c ∈ l, 48 ≤ (c.toNat : Int) ∧ (c.toNat : Int) ≤ 57

theorem dec_digits : ∀ (f : Nat) (V : Int), Digits (dec f V)
  | 0, _ => by intro c hc; simp [dec] at hc
  | f + 1, V => by
    intro c hc
    have hd : 48 ≤ ((dg (V % 10)).toNat : Int) ∧ ((dg (V % 10)).toNat : Int) ≤ 57 := by
      rw [dg_toNat _ (by omega) (by omega)]; omega
    by_cases h : V / 10 = 0
    · rw [dec_last _ _ h] at hc
      simp at hc
      subst hc
      exact hd
    · rw [dec_more _ _ h] at hc
      rcases List.mem_append.1 hc with h' | h'
      · exact dec_digits f _ c h'
      · simp at h'
        subst h'
        exact hd

theorem dec_val : ∀ (f : Nat) (V : Int), 0 ≤ V → V < 10 ^ f → val (dec f V) = V
  | 0, V, h0, h1 => by simp at h1; simp [dec, val]; omega
  | f + 1, V, h0, h1 => by
    rw [Int.pow_succ] at h1
    have hd := dg_toNat (V % 10) (by omega) (by omega)
    by_cases h : V / 10 = 0
    · rw [dec_last _ _ h]
      simp only [val, List.foldl_cons, List.foldl_nil, eat]
      rw [hd]; omega
    · rw [dec_more _ _ h, val_snoc, dec_val f (V / 10) (by omega) (by omega), hd]
      omega

theorem dec_len : ∀ (f : Nat) (V : Int), 0 < f → 0 < (dec f V).length
  | 0, _, h => absurd h (by omega)
  | f + 1, V, _ => by
    by_cases h : V / 10 = 0
    · rw [dec_last _ _ h]; simp
    · rw [dec_more _ _ h]; simp
theorem dec_len_le : ∀ (f : Nat) (V : Int), (dec f V).length ≤ f
  | 0, _ => by simp [dec]
  | f + 1, V => by
    have := dec_len_le f (V / 10)
    by_cases h : V / 10 = 0
    · rw [dec_last _ _ h]; simp
    · rw [dec_more _ _ h]; simp; omega

/-- No zero ahead, but for the text of zero itself. -/
theorem dec_head : ∀ (f : Nat) (V : Int), 0 < V → V < 10 ^ f → ∃ c r, dec f V = c :: r ∧ (c.toNat : Int) ≠ 48
  | 0, V, h0, h1 => by simp at h1; omega
  | f + 1, V, h0, h1 => by
    rw [Int.pow_succ] at h1
    by_cases h : V / 10 = 0
    · rw [dec_last _ _ h]
      exact ⟨_, _, rfl, by rw [dg_toNat _ (by omega) (by omega)]; omega⟩
    · obtain ⟨c, r, e, hc⟩ := dec_head f (V / 10) (by omega) (by omega)
      rw [dec_more _ _ h, e]
      exact ⟨c, r ++ [dg (V % 10)], rfl, hc⟩

theorem D_zero : D 0 = [48] := by decide

/-- What is read off the front is no more than the whole. -/
theorem val_take_le (l : List UInt8) (hd : Digits l) : ∀ k, 0 ≤ val (l.take k) ∧ val (l.take k) ≤ val l := by
  have pos : ∀ (l : List UInt8), Digits l → ∀ acc : Int, 0 ≤ acc → acc ≤ l.foldl eat acc := by
    intro l
    induction l with
    | nil => intro _ acc _; simp
    | cons c r ih =>
      intro hd acc h
      have hc := hd c (by simp)
      have := ih (fun x hx => hd x (by simp [hx])) (eat acc c) (by simp [eat]; omega)
      simp only [List.foldl_cons]
      have : acc ≤ eat acc c := by simp [eat]; omega
      omega
  intro k
  have h1 := pos (l.take k) (fun c hc => hd c (List.mem_of_mem_take hc)) 0 (Int.le_refl 0)
  refine ⟨h1, ?_⟩
  have e : val l = (l.drop k).foldl eat (val (l.take k)) := by
    unfold val
    rw [← List.foldl_append, List.take_append_drop]
  rw [e]
  exact pos _ (fun c hc => hd c (List.mem_of_mem_drop hc)) _ h1
end Go.Proofs.Qxb6632216a
