/-
  THE CONTRACT of policy.Combine (8), seat b6632316a.
-/
import Derived.Test.Qxb6632316aToPolicy
import Derived.Deep.AppendLies
import Derived.Deep.RegionWith
namespace Go.Proofs.Qxb6632316a
open Go.RowKit
set_option linter.unusedVariables false

/-- The walk goes on in any world of which F is known. -/
theorem gen_world {P : Program} {c : Code} {Q : Exit → Act → World → Prop} {a : Act} {W : World} (F : World → Prop) (hF : F W) (key : ∀ W', F W' → Code.wp P c Q a W') : Code.wp P c Q a W := key W hF

/-- The numbers as values. -/
def iv (ns : List Nat) : List Value := ns.map fun (n : Nat) => Value.int .i64 (n : Int)

theorem Try.info3 : (Try.prog.info? 3).map (fun i => (i.zero, i.size, i.bytes)) = some (some (.int .i64 0), 1, 8) := by kernel_rfl

/-- What is owned stays owned where no old block turns. -/
theorem own_later {w w' : World} {base : Nat} {e : TypeId} {size : Nat} {v : Value} {n : Nat} {xs : List Value} (h : w.ownsRow base e size v n xs) (hb : Below w.heap.size w w') : w'.ownsRow base e size v n xs := by
  obtain ⟨h1, h2⟩ := h
  refine ⟨h1, ?_⟩
  rcases h2 with h2 | ⟨g, cap, cur, hv, hb', hg, hr⟩
  · exact .inl h2
  · refine .inr ⟨g, cap, cur, hv, hb', ?_, hr⟩
    have hlt : g < w.heap.size := by
      rcases Nat.lt_or_ge g w.heap.size with h | h
      · exact h
      · rw [Array.getElem?_eq_none h] at hg; cases hg
    rw [hb.block g hlt, hg]

/-- A slice that is owned, cut to nothing: the row stays owned. -/
theorem own_cut {w : World} {base : Nat} {e : TypeId} {size : Nat} {g n cap : Nat} {xs : List Value} (h : w.ownsRow base e size (.slice (some ⟨g, 0, none⟩) n cap) n xs) : w.ownsRow base e size (.slice (some ⟨g, 0, none⟩) 0 cap) 0 [] := by
  obtain ⟨h1, h2⟩ := h
  rcases h2 with ⟨h3, _⟩ | ⟨g', cap', cur, hv, hb', hg, hn, hm, hc, _⟩
  · cases h3
  · simp only [Value.slice.injEq, Option.some.injEq, Addr.mk.injEq] at hv
    obtain ⟨⟨rfl, _⟩, _, rfl⟩ := hv
    exact ⟨by simp, .inr ⟨g, cap, cur, rfl, hb', hg, by omega, hm, hc, by simp⟩⟩

/-- 'append(winners, z)', winners owned: the walk's own law. -/
theorem app_one {ops : Array Oper} {rest : List Oper} {o : Oper} {a : Act} {Q : Exit → Act → World → Prop} (W5 : World) (z : Int) (hgd : o.guard = none) (s x : Operand)
    (ho : o.op = .call { callee := .builtin .append, args := #[s, x], argTypes := #[28, 28] }) (base : Nat) (v : Value) (n : Nat) (xs : List Value) (hs : a.eval s = v)
    (hx : a.eval x = .slice (some ⟨W5.heap.size, 0, none⟩) 1 1) (hown : W5.ownsRow base 3 1 v n xs) (hn : n ≤ 4194304) (hbase : base ≤ W5.heap.size)
    (h : ∀ g cap w', w'.ownsRow base 3 1 (.slice (some ⟨g, 0, none⟩) (n + 1) cap) (n + 1) (xs ++ [.int .i64 z]) → Below base W5 w' → wpList Try.prog ops Q rest (a.put o.dst (.slice (some ⟨g, 0, none⟩) (n + 1) cap)) w') :
    wpList Try.prog ops Q (o :: rest) a (W5.alloc (.cells #[.int .i64 z] 3)) := by
  obtain ⟨i, hi, hz, hsz, hb⟩ := info_parts Try.info3
  have hbel : Below W5.heap.size W5 (W5.alloc (.cells #[.int .i64 z] 3)) := (Below.refl _ _).alloc (Nat.le_refl _) _
  have hown2 := own_later hown hbel
  refine wpList_append_lies (P := Try.prog) (W5.alloc (.cells #[.int .i64 z] 3)) hgd s x 28 ho base 3 i (.int .i64 0) 1 8 Try.underlying28 hi hz hsz hb rfl (by decide) v n xs hs hown2 ⟨W5.heap.size, 0, none⟩ 1 1 [.int .i64 z] hx rfl ?_ ?_ (by decide) (by unfold maxLen; omega) (by omega) (by simp; omega) _ rfl ?_
  · intro j u hu
    exact World.news_of_block (cs := #[.int .i64 z]) (Go.Deep.blk_alloc_new _ _) j u (by simpa using hu)
  · intro u hu
    simp at hu
    subst hu
    rfl
  · intro g cap w' h1 h2 _ _
    refine h g cap w' h1 ((hbel.mono hbase).grown h2 (by simp; omega) ?_)
    intro k hk
    obtain ⟨_, h3⟩ := hown
    rcases h3 with ⟨rfl, _⟩ | ⟨g', cap', cur, rfl, hb', _⟩
    · simp [Value.ownBlock] at hk
    · simp [Value.ownBlock] at hk
      omega

/-- A record's three cells. -/
def rcells (r : Rec) : Array Value := #[.string r.act, .int .i64 r.pri, .string r.id]

theorem box_world (wr : World) (x y : Rec) (nq : Nat) (W5 : World) (h : (((wr.alloc (.cells (rcells x) 39)).alloc (.cells (rcells x) 39)).alloc (.cells (rcells y) 39)).drewN nq = W5) :
    Below wr.heap.size wr W5 ∧ W5.cell? ⟨wr.heap.size, 0, none⟩ = some (.string x.act) ∧ W5.cell? ⟨wr.heap.size, 1, none⟩ = some (.int .i64 x.pri) ∧ W5.cell? ⟨wr.heap.size, 2, none⟩ = some (.string x.id) ∧ W5.heap.size = wr.heap.size + 3 := by
  subst h
  refine ⟨?_, by simp [go_sem, rcells], by simp [go_sem, rcells], by simp [go_sem, rcells], by simp⟩
  have h1 : Below wr.heap.size wr (((wr.alloc (.cells (rcells x) 39)).alloc (.cells (rcells x) 39)).alloc (.cells (rcells y) 39)) := (((Below.refl _ _).alloc (Nat.le_refl _) _).alloc (by simp) _).alloc (by simp; omega) _
  exact h1.trans ⟨rfl, rfl, rfl, Nat.le_refl _, fun _ _ => rfl⟩

theorem comb_len (rs : List Rec) (k : Nat) : (comb rs k).length ≤ k := by
  rcases Nat.eq_zero_or_pos k with rfl | h
  · simp [comb]
  · obtain ⟨w0, t, _, _, _, hf⟩ := comb_spec rs k h
    rw [hf]
    have := List.length_filter_le (fun i => sameB (el rs i) (el rs w0)) (List.range k)
    simpa using this

/-- The winners so far, and the world. -/
structure Cmb (w : World) (rs : List Rec) (k : Nat) (v : Value) (wr : World) : Prop where
  below : Below w.heap.size w wr
  own : wr.ownsRow w.heap.size 3 1 v (comb rs k).length (iv (comb rs k))
  nil : k = 0 → v = .slice none 0 0

set_option maxHeartbeats 1000000 in
theorem combine (a : Option Addr) (len cap : Nat) (rs : List Rec) (w : World) (hs : Recs w a len rs) (hl : len ≤ 2097152) :
    Calls Try.prog 8 #[.slice a len cap] w fun e w' => ∃ v, e = .returned v ∧ w'.ownsRow w.heap.size 3 1 v (comb rs len).length (iv (comb rs len)) ∧ Below w.heap.size w w' := by
  go_enter Try.func8, Try.ntmps8
  go_wp2_with fail
  go_loopw [3, 9] (fun v i wr => ∃ k : Nat, k ≤ len ∧ i = .int .i64 k ∧ Cmb w rs k v wr) (fun _ i _ => len - (intOf i).toNat)
  case atStart => exact ⟨0, Nat.zero_le _, rfl, Below.refl _ _, ⟨rfl, .inl ⟨rfl, rfl⟩⟩, fun _ => rfl⟩
  case round =>
    obtain ⟨k, hk, rfl, hC⟩ := hrel
    by_cases hlt : k < len
    · obtain ⟨b, off, rfl, hb, hc⟩ := hs.hat (by omega)
      obtain ⟨c0, c1, c2⟩ := hc k (by rw [hs.hlen]; exact hlt)
      rw [← hC.below.cell (p := ⟨b, off + k * 3, none⟩) hb] at c0
      rw [← hC.below.cell (p := ⟨b, off + k * 3 + 1, none⟩) hb] at c1
      rw [← hC.below.cell (p := ⟨b, off + k * 3 + 2, none⟩) hb] at c2
      rw [← el_lt rs k (by rw [hs.hlen]; exact hlt)] at c0 c1 c2
      have hbw : b < wr.heap.size := by have := hC.below.size; omega
      by_cases hk0 : k = 0
      · have hv := hC.nil hk0
        subst hv
        have hbelow := hC.below
        have HK : Hid (k = 0) := hk0
        generalize el rs k = x at *
        clear hc hs hC hk0
        go_wp2_with fail
        go_quiet (fail)
        have h5 : Below wr.heap.size wr ((wr.alloc (Obj.cells #[.string x.act, .int .i64 x.pri, .string x.id] 39)).drewN nq) := ((Below.refl _ _).alloc (Nat.le_refl _) _).trans ⟨rfl, rfl, rfl, Nat.le_refl _, fun _ _ => rfl⟩
        generalize (wr.alloc (Obj.cells #[.string x.act, .int .i64 x.pri, .string x.id] 39)).drewN nq = W5 at *
        have hown5 : W5.ownsRow w.heap.size 3 1 (.slice none 0 0) 0 [] := ⟨rfl, .inl ⟨rfl, rfl⟩⟩
        have hbase5 : w.heap.size ≤ W5.heap.size := by have := h5.size; have := hbelow.size; omega
        clear c0 c1 c2
        go_wp2_with (at_builtin; refine app_one W5 (k : Int) (by rfl) _ _ (by rfl) w.heap.size _ 0 [] (by rfl) (by rfl) hown5 (by omega) hbase5 ?_; intro g' cap' w' hown' hbel')
        have hcomb : comb rs (k + 1) = [k] := by rw [HK.out]; rfl
        refine ⟨⟨k + 1, by omega, by go_num, (hbelow.trans (h5.mono hbelow.size)).trans hbel', ?_, fun h => absurd h (by omega)⟩, by simp [intOf]; omega⟩
        rw [hcomb]
        exact hown'
      · obtain ⟨w0, t, ec, hw0, hbest, _⟩ := comb_spec rs k (by omega)
        obtain ⟨d0, d1, d2⟩ := hc w0 (by rw [hs.hlen]; omega)
        rw [← hC.below.cell (p := ⟨b, off + w0 * 3, none⟩) hb] at d0
        rw [← hC.below.cell (p := ⟨b, off + w0 * 3 + 1, none⟩) hb] at d1
        rw [← hC.below.cell (p := ⟨b, off + w0 * 3 + 2, none⟩) hb] at d2
        rw [← el_lt rs w0 (by rw [hs.hlen]; omega)] at d0 d1 d2
        have hown := hC.own
        have hbelow := hC.below
        rw [ec] at hown
        obtain ⟨g, cp, rfl, hg0, hg1⟩ := hown.form (by simp)
        have hw0c : wr.cell? ⟨g, 0, none⟩ = some (.int .i64 (w0 : Int)) := by
          obtain ⟨_, h2⟩ := hown
          rcases h2 with ⟨h3, _⟩ | ⟨g', cap', cur, hv, _, hgb, _, _, _, htake⟩
          · cases h3
          · simp only [Value.slice.injEq, Option.some.injEq, Addr.mk.injEq] at hv
            obtain ⟨⟨rfl, _⟩, _, rfl⟩ := hv
            have h0 : cur[0]? = some (.int .i64 (w0 : Int)) := by
              have := congrArg (fun l : List Value => l[0]?) htake
              simp [iv] at this
              simpa using this
            simp [World.cell?, hgb, h0]
        have hne : (((w0 :: t).length : Int) == 0) = false := by rw [beq_eq_false_iff_ne, List.length_cons]; omega
        have hnp : (0 : Int) < ((w0 :: t).length : Int) := by rw [List.length_cons]; omega
        generalize hn : (w0 :: t).length = n at *
        have j1 : (w0 : Int) < (len : Int) := by omega
        have j0 : (0 : Int) ≤ (w0 : Int) := by omega
        generalize hx : el rs k = x at *
        generalize hy : el rs w0 = y at *
        have HX : Hid (el rs k = x) := hx
        have HY : Hid (el rs w0 = y) := hy
        have HN : Hid ((w0 :: t).length = n) := hn
        have HEC : Hid (comb rs k = w0 :: t) := ec
        have hnp2 : 0 < n := by omega
        have hnp3 : n ≠ 0 := by omega
        have hnp4 : ¬ n = 0 := by omega
        have g2 : g < wr.heap.size + 1 := by omega
        have g3 : g < wr.heap.size + 1 + 1 := by omega
        have b2 : b < wr.heap.size + 1 := by omega
        have b3 : b < wr.heap.size + 1 + 1 := by omega
        clear hc hs hC hx hy hn ec hbest
        cases ho : outr x y
        · go_wp2_with fail
          go_region_held3 (fun w' => w'.cell? ⟨wr.heap.size, 0, none⟩ = some (.string x.act) ∧ w'.cell? ⟨wr.heap.size, 1, none⟩ = some (.int .i64 x.pri) ∧ w'.cell? ⟨wr.heap.size, 2, none⟩ = some (.string x.id) ∧ w'.cell? ⟨g, 0, none⟩ = some (.int .i64 (w0 : Int)) ∧ w'.cell? ⟨b, off + w0 * 3, none⟩ = some (.string y.act) ∧ w'.cell? ⟨b, off + w0 * 3 + 1, none⟩ = some (.int .i64 y.pri) ∧ w'.cell? ⟨b, off + w0 * 3 + 2, none⟩ = some (.string y.id)) (simp [go_sem, World.cell?_alloc_past, *])
            ((go_at_call 14; refine (outranks x y _).mono ?_; rintro e w' ⟨rfl, nq, rfl⟩))
          generalize hW5 : (((wr.alloc (Obj.cells #[.string x.act, .int .i64 x.pri, .string x.id] 39)).alloc (Obj.cells #[.string x.act, .int .i64 x.pri, .string x.id] 39)).alloc (Obj.cells #[.string y.act, .int .i64 y.pri, .string y.id] 39)).drewN (1 + nq) = W5
          obtain ⟨h5, e0, e1, e2, hsz5⟩ := box_world wr x y (1 + nq) W5 hW5
          have hown5 := own_later hown h5
          rw [← h5.cell (p := ⟨g, 0, none⟩) hg1] at hw0c
          rw [← h5.cell (p := ⟨b, off + w0 * 3, none⟩) hbw] at d0
          rw [← h5.cell (p := ⟨b, off + w0 * 3 + 1, none⟩) hbw] at d1
          rw [← h5.cell (p := ⟨b, off + w0 * 3 + 2, none⟩) hbw] at d2
          have hlt5 : wr.heap.size < W5.heap.size := by omega
          have hbase5 : w.heap.size ≤ W5.heap.size := by have := h5.size; have := hbelow.size; omega
          have hb5 : Below w.heap.size w W5 := hbelow.trans (h5.mono hbelow.size)
          have hlen4 : n ≤ 4194304 := by
            have h1 := comb_len rs k
            rw [HEC.out, HN.out] at h1
            omega
          clear hW5 hsz5 c0 c1 c2 hown g2 g3 b2 b3
          cases hsa : (x.act.toList == y.act.toList)
          · have hcomb : comb rs (k + 1) = comb rs k := by
              show stp rs (comb rs k) k = comb rs k
              rw [HEC.out]
              simp only [stp]
              rw [HX.out, HY.out, ho, sameB, hsa]
              rfl
            go_wp2
            refine ⟨⟨k + 1, by omega, by go_num, hb5.alloc hbase5 _, ?_, fun h => absurd h (by omega)⟩, by simp [intOf]; omega⟩
            rw [hcomb, HEC.out, HN.out]
            exact own_later hown5 ((Below.refl _ _).alloc (Nat.le_refl _) _)
          · cases hsp : (x.pri == y.pri)
            · have hcomb : comb rs (k + 1) = comb rs k := by
                show stp rs (comb rs k) k = comb rs k
                rw [HEC.out]
                simp only [stp]
                rw [HX.out, HY.out, ho, sameB, hsa, hsp]
                rfl
              go_wp2
              refine ⟨⟨k + 1, by omega, by go_num, hb5.alloc hbase5 _, ?_, fun h => absurd h (by omega)⟩, by simp [intOf]; omega⟩
              rw [hcomb, HEC.out, HN.out]
              exact own_later hown5 ((Below.refl _ _).alloc (Nat.le_refl _) _)
            · have hcomb : comb rs (k + 1) = comb rs k ++ [k] := by
                show stp rs (comb rs k) k = comb rs k ++ [k]
                rw [HEC.out]
                simp only [stp]
                rw [HX.out, HY.out, ho, sameB, hsa, hsp]
                rfl
              have hown6 := own_later hown5 ((Below.refl _ W5).alloc (Nat.le_refl _) (Obj.cells #[.string y.act, .int .i64 y.pri, .string y.id] 39))
              have hbase6 : w.heap.size ≤ (W5.alloc (Obj.cells #[.string y.act, .int .i64 y.pri, .string y.id] 39)).heap.size := by simp; omega
              go_wp2_with (at_builtin; refine app_one (W5.alloc (Obj.cells #[.string y.act, .int .i64 y.pri, .string y.id] 39)) (k : Int) (by rfl) _ _ (by rfl) w.heap.size _ n (iv (w0 :: t)) (by rfl) (by simp; rfl) hown6 hlen4 hbase6 ?_; intro g' cap' w' hown' hbel')
              refine ⟨⟨k + 1, by omega, by go_num, (hb5.alloc hbase5 _).trans hbel', ?_, fun h => absurd h (by omega)⟩, by simp [intOf]; omega⟩
              have e1 : (comb rs (k + 1)).length = n + 1 := by rw [hcomb, HEC.out, List.length_append, HN.out]; rfl
              have e2 : iv (comb rs (k + 1)) = iv (w0 :: t) ++ [.int .i64 (k : Int)] := by rw [hcomb, HEC.out]; simp [iv]
              rw [e1, e2]
              exact hown'
        · go_wp2_with fail
          go_region_held3 (fun w' => w'.cell? ⟨wr.heap.size, 0, none⟩ = some (.string x.act) ∧ w'.cell? ⟨wr.heap.size, 1, none⟩ = some (.int .i64 x.pri) ∧ w'.cell? ⟨wr.heap.size, 2, none⟩ = some (.string x.id) ∧ w'.cell? ⟨g, 0, none⟩ = some (.int .i64 (w0 : Int)) ∧ w'.cell? ⟨b, off + w0 * 3, none⟩ = some (.string y.act) ∧ w'.cell? ⟨b, off + w0 * 3 + 1, none⟩ = some (.int .i64 y.pri) ∧ w'.cell? ⟨b, off + w0 * 3 + 2, none⟩ = some (.string y.id)) (simp [go_sem, World.cell?_alloc_past, *])
            ((go_at_call 14; refine (outranks x y _).mono ?_; rintro e w' ⟨rfl, nq, rfl⟩))
          generalize hW5 : (((wr.alloc (Obj.cells #[.string x.act, .int .i64 x.pri, .string x.id] 39)).alloc (Obj.cells #[.string x.act, .int .i64 x.pri, .string x.id] 39)).alloc (Obj.cells #[.string y.act, .int .i64 y.pri, .string y.id] 39)).drewN (1 + nq) = W5
          obtain ⟨h5, _, _, _, hsz5⟩ := box_world wr x y (1 + nq) W5 hW5
          have hown5 := own_cut (own_later hown h5)
          have HS5 : Hid (W5.heap.size = wr.heap.size + 3) := hsz5
          clear hW5 hsz5 c0 c1 c2 d0 d1 d2 hown hw0c
          have hbase5 : w.heap.size ≤ W5.heap.size := by have := h5.size; have := hbelow.size; omega
          go_wp2_with (at_builtin; refine app_one W5 (k : Int) (by rfl) _ _ (by rfl) w.heap.size _ 0 [] (by rfl) (by rfl) hown5 (by omega) hbase5 ?_; intro g' cap' w' hown' hbel')
          have hcomb : comb rs (k + 1) = [k] := by
            show stp rs (comb rs k) k = [k]
            rw [HEC.out]
            simp only [stp]
            rw [HX.out, HY.out, if_pos ho]
          refine ⟨⟨k + 1, by omega, by go_num, (hbelow.trans (h5.mono hbelow.size)).trans hbel', ?_, fun h => absurd h (by omega)⟩, by simp [intOf]; omega⟩
          rw [hcomb]
          exact hown'
    · obtain rfl : len = k := by omega
      clear hs
      go_wp2
      go_ret
      exact ⟨_, rfl, hC.own, hC.below⟩
end Go.Proofs.Qxb6632316a
