/-
  THE WALK of FnStringParsesBackToID (function 3), seat b6632216a.
-/
import Derived.Test.Qxb6632216aString
namespace Go.Proofs.Qxb6632216a
open Go.RowKit Go.WideShapes
set_option linter.unusedVariables false

/-- What the first k bytes of s spell. -/
def vt (s : ByteArray) (k : Nat) : Int := val (s.data.toList.take k)

/-- What the law wants of the text s of the number V. -/
structure Txt (s : ByteArray) (V : Int) : Prop where
  pos : 0 < s.size
  small : s.size ≤ 49
  head : ∀ h : 0 < s.size, 1 < s.size → ((s[0].toNat : Int) == 48) = false
  dig : ∀ k (hk : k < s.size), 48 ≤ (s[k].toNat : Int) ∧ (s[k].toNat : Int) ≤ 57
  zero : vt s 0 = 0
  succ : ∀ k (hk : k < s.size), vt s (k + 1) = vt s k * 10 + ((s[k].toNat : Int) - 48)
  bd : ∀ k, 0 ≤ vt s k ∧ vt s k ≤ V
  all : vt s s.size = V

theorem txt_D (V : Int) (h0 : 0 ≤ V) (h1 : V < 1461501637330902918203684832716283019655932542976) : Txt (bstr (D V)) V := by
  have hl : (bstr (D V)).data.toList = D V := by simp [bstr]
  have hsz : (bstr (D V)).size = (D V).length := by simp [bstr, ByteArray.size]
  have hget : ∀ k (hk : k < (bstr (D V)).size), (bstr (D V))[k] = (D V)[k]'(by rw [← hsz]; exact hk) := by
    intro k hk
    simp [bstr, ByteArray.getElem_eq_getElem_data]
  have hdig := dec_digits 49 V
  have hval : val (D V) = V := dec_val 49 V h0 (lim160 h1)
  refine ⟨?_, ?_, ?_, ?_, ?_, ?_, ?_, ?_⟩
  · rw [hsz]; exact dec_len 49 V (by decide)
  · rw [hsz]; exact dec_len_le 49 V
  · intro h hk
    rw [hget 0 h]
    rw [hsz] at hk
    rcases Int.lt_or_eq_of_le h0 with hp | hz
    · obtain ⟨c, r, e, hc⟩ := dec_head 49 V hp (lim160 h1)
      have e' : D V = c :: r := e
      simp only [e', List.getElem_cons_zero]
      exact beq_eq_false_iff_ne.2 hc
    · subst hz
      rw [D_zero] at hk
      simp at hk
  · intro k hk
    rw [hget k hk]
    exact hdig _ (List.getElem_mem _)
  · simp [vt, val]
  · intro k hk
    have hk' : k < (D V).length := by rw [← hsz]; exact hk
    unfold vt
    rw [hl, List.take_succ_eq_append_getElem hk', val_snoc, hget k hk]
  · intro k
    unfold vt
    rw [hl]
    have := val_take_le (D V) hdig k
    rw [hval] at this
    exact this
  · unfold vt
    rw [hl, hsz, List.take_length, hval]

/-- The six limbs in memory. -/
structure Lay (w : World) (B : Nat) (l0 l1 l2 l3 l4 l5 : Int) : Prop where
  k0 : w.cell? ⟨B, 0, none⟩ = some (.int .u64 l0)
  k1 : w.cell? ⟨B, 1, none⟩ = some (.int .u64 l1)
  k2 : w.cell? ⟨B, 2, none⟩ = some (.int .u64 l2)
  k3 : w.cell? ⟨B, 3, none⟩ = some (.int .u64 l3)
  k4 : w.cell? ⟨B, 4, none⟩ = some (.int .u64 l4)
  k5 : w.cell? ⟨B, 5, none⟩ = some (.int .u64 l5)
  fz : ∀ o, w.frozen? ⟨B, o, none⟩ = false

/-- Six stores. -/
def six (w : World) (B : Nat) (n0 n1 n2 n3 n4 n5 : Int) : World := (((((w.setCell ⟨B, 0, none⟩ (.int .u64 n0)).setCell ⟨B, 1, none⟩ (.int .u64 n1)).setCell ⟨B, 2, none⟩ (.int .u64 n2)).setCell ⟨B, 3, none⟩ (.int .u64 n3)).setCell ⟨B, 4, none⟩ (.int .u64 n4)).setCell ⟨B, 5, none⟩ (.int .u64 n5)

theorem lay_six {w : World} {B : Nat} {l0 l1 l2 l3 l4 l5 : Int} (h : Lay w B l0 l1 l2 l3 l4 l5) (n0 n1 n2 n3 n4 n5 : Int) : Lay (six w B n0 n1 n2 n3 n4 n5) B n0 n1 n2 n3 n4 n5 := by
  obtain ⟨k0, k1, k2, k3, k4, k5, fz⟩ := h
  unfold six
  constructor <;> simp [go_sem, k0, k1, k2, k3, k4, k5, fz]
theorem below_six {w wr : World} {B : Nat} (h : Below w.heap.size w wr) (hB : w.heap.size ≤ B) (n0 n1 n2 n3 n4 n5 : Int) : Below w.heap.size w (six wr B n0 n1 n2 n3 n4 n5) := by
  unfold six
  exact (((((h.setCell hB _).setCell hB _).setCell hB _).setCell hB _).setCell hB _).setCell hB _

set_option maxHeartbeats 1000000 in
theorem back_any (a b c V : Int) (h : Words a b c V) (hc : c ≤ 4294967295) (w : World) :
    Calls Try.prog 3 #[.int .u64 a, .int .u64 b, .int .u64 c] w fun e w' => e = .returned (.bool true) ∧ Below w.heap.size w w' := by
  have hn : ¬ 4294967295 < c := by omega
  have HV : Hid (V < 1461501637330902918203684832716283019655932542976) := words_small h hc
  go_enter Try.func3, Try.ntmps3
  go_wp2_with fail
  refine (newID_any a b c _).mono ?_
  rintro e w1 ⟨rfl, o1, rfl⟩
  go_wp2_with fail
  refine (string_any a b c V h HV.out _).mono ?_
  rintro e w1 ⟨rfl, hb⟩
  have ht := txt_D V h.lo HV.out
  generalize bstr (D V) = s at *
  have hb1 : Below w.heap.size w w1 := (((Below.refl _ _).alloc (Nat.le_refl _) _)).trans (hb.mono (by simp))
  clear hb
  have hp := ht.pos
  have hsm := ht.small
  have he : ((s.size : Int) == 0) = false := beq_eq_false_iff_ne.2 (by omega)
  have hh := ht.head hp
  by_cases h1 : (1 : Int) < (s.size : Int)
  · have hh := hh (by omega)
    go_wp2_with fail
    go_loopw [9] (fun i wr => ∃ k : Nat, k ≤ s.size ∧ i = .int .i64 k ∧ Below w.heap.size w wr ∧ ∃ l0 l1 l2 l3 l4 l5, Limbs l0 l1 l2 l3 l4 l5 (vt s k) ∧ Lay wr w1.heap.size l0 l1 l2 l3 l4 l5) (fun i wr => s.size - (intOf i).toNat)
    case atStart =>
      refine ⟨0, Nat.zero_le _, rfl, hb1.alloc hb1.size _, 0, 0, 0, 0, 0, 0, ⟨by omega, by omega, by omega, by omega, by omega, by omega, by omega, by omega, by omega, by omega, by omega, by omega, by rw [ht.zero]; omega⟩, ?_⟩
      constructor <;> simp [go_sem]
    case round =>
      obtain ⟨k, hk, rfl, hbel, l0, l1, l2, l3, l4, l5, hL, hlay⟩ := hrel
      by_cases hlt : k < s.size
      · obtain ⟨d0, d1⟩ := ht.dig k hlt
        generalize hch : (s[k].toNat : Int) = ch at *
        obtain ⟨n0, c1, p0⟩ := put_ex l0 (ch - 48) hL.a0 hL.a1 (by omega) (by omega)
        obtain ⟨n1, c2, p1⟩ := put_ex l1 c1 hL.b0 hL.b1 p0.k0 p0.k1
        obtain ⟨n2, c3, p2⟩ := put_ex l2 c2 hL.c0 hL.c1 p1.k0 p1.k1
        obtain ⟨n3, c4, p3⟩ := put_ex l3 c3 hL.d0 hL.d1 p2.k0 p2.k1
        obtain ⟨n4, c5, p4⟩ := put_ex l4 c4 hL.e0 hL.e1 p3.k0 p3.k1
        obtain ⟨n5, c6, p5⟩ := put_ex l5 c5 hL.f0 hL.f1 p4.k0 p4.k1
        have hV2 : vt s (k + 1) < 1461501637330902918203684832716283019655932542976 := by have := (ht.bd (k + 1)).2; have := HV.out; omega
        obtain ⟨rfl, z5, hN⟩ := limbs_small (V := vt s (k + 1)) (by have := limbs_step hL p0 p1 p2 p3 p4 p5; rw [← hch, ← ht.succ k hlt] at this; exact this) p5.k0 hV2
        have Hfin : Hid ((∃ k' : Nat, k' ≤ s.size ∧ Value.int .i64 ((k : Int) + 1) = .int .i64 k' ∧ Below w.heap.size w (six wr w1.heap.size n0 n1 n2 n3 n4 n5) ∧ ∃ l0 l1 l2 l3 l4 l5, Limbs l0 l1 l2 l3 l4 l5 (vt s k') ∧ Lay (six wr w1.heap.size n0 n1 n2 n3 n4 n5) w1.heap.size l0 l1 l2 l3 l4 l5) ∧ s.size - (intOf (.int .i64 ((k : Int) + 1))).toNat < s.size - (intOf (.int .i64 (k : Int))).toNat) :=
          ⟨⟨k + 1, by omega, by go_num, below_six hbel hb1.size _ _ _ _ _ _, n0, n1, n2, n3, n4, n5, hN, lay_six hlay _ _ _ _ _ _⟩, by simp [intOf]; omega⟩
        obtain ⟨k0, k1, k2, k3, k4, k5, fz⟩ := hlay
        obtain ⟨p01, p02, p03, p04, p05, p06, p07⟩ := p0
        obtain ⟨p11, p12, p13, p14, p15, p16, p17⟩ := p1
        obtain ⟨p21, p22, p23, p24, p25, p26, p27⟩ := p2
        obtain ⟨p31, p32, p33, p34, p35, p36, p37⟩ := p3
        obtain ⟨p41, p42, p43, p44, p45, p46, p47⟩ := p4
        obtain ⟨p51, p52, p53, p54, p55, p56, p57⟩ := p5
        obtain ⟨a0, a1, b0, b1, e0, e1, f0, f1, g0, g1, i0, i1, i2⟩ := hL
        clear p07 p17 p27 p37 p47 p57 i2 hN hV2 z5 ht hh
        go_wp2_with fail
        refine wp_loop_rounds 7 ?_
        rw [rounds_succ]
        go_wp2_with fail
        rw [rounds_succ]
        go_wp2_with fail
        rw [rounds_succ]
        go_wp2_with fail
        rw [rounds_succ]
        go_wp2_with fail
        rw [rounds_succ]
        go_wp2_with fail
        rw [rounds_succ]
        go_wp2_with fail
        rw [rounds_succ]
        go_wp2_with fail
        exact Hfin.out
      · obtain rfl : k = s.size := by omega
        rw [ht.all] at hL
        obtain ⟨rfl, rfl, rfl, rfl, rfl, rfl⟩ := limbs_words hL h hc
        obtain ⟨k0, k1, k2, k3, k4, k5, fz⟩ := hlay
        have ha := and32 a h.a0 (by have := h.a1; omega)
        have hb := and32 b h.b0 (by have := h.b1; omega)
        have ha0 := h.a0
        have ha1 := h.a1
        have hb0 := h.b0
        have hb1' := h.b1
        clear hL ht hh
        go_wp2
        go_ret
        exact ⟨rfl, hbel⟩
  · go_wp2_with fail
    go_loopw [9] (fun i wr => ∃ k : Nat, k ≤ s.size ∧ i = .int .i64 k ∧ Below w.heap.size w wr ∧ ∃ l0 l1 l2 l3 l4 l5, Limbs l0 l1 l2 l3 l4 l5 (vt s k) ∧ Lay wr w1.heap.size l0 l1 l2 l3 l4 l5) (fun i wr => s.size - (intOf i).toNat)
    case atStart =>
      refine ⟨0, Nat.zero_le _, rfl, hb1.alloc hb1.size _, 0, 0, 0, 0, 0, 0, ⟨by omega, by omega, by omega, by omega, by omega, by omega, by omega, by omega, by omega, by omega, by omega, by omega, by rw [ht.zero]; omega⟩, ?_⟩
      constructor <;> simp [go_sem]
    case round =>
      obtain ⟨k, hk, rfl, hbel, l0, l1, l2, l3, l4, l5, hL, hlay⟩ := hrel
      by_cases hlt : k < s.size
      · obtain ⟨d0, d1⟩ := ht.dig k hlt
        generalize hch : (s[k].toNat : Int) = ch at *
        obtain ⟨n0, c1, p0⟩ := put_ex l0 (ch - 48) hL.a0 hL.a1 (by omega) (by omega)
        obtain ⟨n1, c2, p1⟩ := put_ex l1 c1 hL.b0 hL.b1 p0.k0 p0.k1
        obtain ⟨n2, c3, p2⟩ := put_ex l2 c2 hL.c0 hL.c1 p1.k0 p1.k1
        obtain ⟨n3, c4, p3⟩ := put_ex l3 c3 hL.d0 hL.d1 p2.k0 p2.k1
        obtain ⟨n4, c5, p4⟩ := put_ex l4 c4 hL.e0 hL.e1 p3.k0 p3.k1
        obtain ⟨n5, c6, p5⟩ := put_ex l5 c5 hL.f0 hL.f1 p4.k0 p4.k1
        have hV2 : vt s (k + 1) < 1461501637330902918203684832716283019655932542976 := by have := (ht.bd (k + 1)).2; have := HV.out; omega
        obtain ⟨rfl, z5, hN⟩ := limbs_small (V := vt s (k + 1)) (by have := limbs_step hL p0 p1 p2 p3 p4 p5; rw [← hch, ← ht.succ k hlt] at this; exact this) p5.k0 hV2
        have Hfin : Hid ((∃ k' : Nat, k' ≤ s.size ∧ Value.int .i64 ((k : Int) + 1) = .int .i64 k' ∧ Below w.heap.size w (six wr w1.heap.size n0 n1 n2 n3 n4 n5) ∧ ∃ l0 l1 l2 l3 l4 l5, Limbs l0 l1 l2 l3 l4 l5 (vt s k') ∧ Lay (six wr w1.heap.size n0 n1 n2 n3 n4 n5) w1.heap.size l0 l1 l2 l3 l4 l5) ∧ s.size - (intOf (.int .i64 ((k : Int) + 1))).toNat < s.size - (intOf (.int .i64 (k : Int))).toNat) :=
          ⟨⟨k + 1, by omega, by go_num, below_six hbel hb1.size _ _ _ _ _ _, n0, n1, n2, n3, n4, n5, hN, lay_six hlay _ _ _ _ _ _⟩, by simp [intOf]; omega⟩
        obtain ⟨k0, k1, k2, k3, k4, k5, fz⟩ := hlay
        obtain ⟨p01, p02, p03, p04, p05, p06, p07⟩ := p0
        obtain ⟨p11, p12, p13, p14, p15, p16, p17⟩ := p1
        obtain ⟨p21, p22, p23, p24, p25, p26, p27⟩ := p2
        obtain ⟨p31, p32, p33, p34, p35, p36, p37⟩ := p3
        obtain ⟨p41, p42, p43, p44, p45, p46, p47⟩ := p4
        obtain ⟨p51, p52, p53, p54, p55, p56, p57⟩ := p5
        obtain ⟨a0, a1, b0, b1, e0, e1, f0, f1, g0, g1, i0, i1, i2⟩ := hL
        clear p07 p17 p27 p37 p47 p57 i2 hN hV2 z5 ht hh
        go_wp2_with fail
        refine wp_loop_rounds 7 ?_
        rw [rounds_succ]
        go_wp2_with fail
        rw [rounds_succ]
        go_wp2_with fail
        rw [rounds_succ]
        go_wp2_with fail
        rw [rounds_succ]
        go_wp2_with fail
        rw [rounds_succ]
        go_wp2_with fail
        rw [rounds_succ]
        go_wp2_with fail
        rw [rounds_succ]
        go_wp2_with fail
        exact Hfin.out
      · obtain rfl : k = s.size := by omega
        rw [ht.all] at hL
        obtain ⟨rfl, rfl, rfl, rfl, rfl, rfl⟩ := limbs_words hL h hc
        obtain ⟨k0, k1, k2, k3, k4, k5, fz⟩ := hlay
        have ha := and32 a h.a0 (by have := h.a1; omega)
        have hb := and32 b h.b0 (by have := h.b1; omega)
        have ha0 := h.a0
        have ha1 := h.a1
        have hb0 := h.b0
        have hb1' := h.b1
        clear hL ht hh
        go_wp2
        go_ret
        exact ⟨rfl, hbel⟩

end Go.Proofs.Qxb6632216a
