/-
  THE CONTRACT of joinedExpect (13), put together; seat b6632316a.
-/
import Derived.Test.Qxb6632316aLists
namespace Go.Proofs.Qxb6632316a
open Go.RowKit
set_option linter.unusedVariables false

theorem range_getD (l : List Nat) : (List.range l.length).map (fun i => l.getD i 0) = l := by
  apply List.ext_getElem
  · simp
  · intro i h1 h2
    simp at h1
    simp [List.getD, List.getElem?_eq_getElem h1]
theorem range_getD_add (l : List Nat) (n : Nat) : (List.range l.length).map (fun i => l.getD i 0 + n) = l.map (· + n) := by
  conv => rhs; rw [← range_getD l]
  rw [List.map_map]
  rfl

theorem win_fn {w : World} {ns : List Nat} {a : Option Addr} (h : 0 < ns.length → ∃ g, a = some ⟨g, 0, none⟩ ∧ ∀ i (h : i < ns.length), w.cell? ⟨g, i, none⟩ = some (.int .i64 (ns[i] : Int))) :
    0 < ns.length → ∃ g, a = some ⟨g, 0, none⟩ ∧ ∀ i, i < ns.length → w.cell? ⟨g, i, none⟩ = some (.int .i64 ((ns.getD i 0 : Nat) : Int)) := by
  intro h0
  obtain ⟨g, e, hc⟩ := h h0
  refine ⟨g, e, fun i hi => ?_⟩
  rw [hc i hi]
  simp [List.getD, List.getElem?_eq_getElem hi]

theorem joinedExpect (a : Option Addr) (na cap : Nat) (xs : List Rec) (vx : Value) (wx : List Nat) (b : Option Addr) (nb cap2 : Nat) (ys : List Rec) (vy : Value) (wy : List Nat) (w : World)
    (hx : Recs w a na xs) (hy : Recs w b nb ys) (hvx : Win w vx wx) (hvy : Win w vy wy) (ha : na ≤ 1048576) (hb : nb ≤ 1048576) (hlx : wx.length ≤ na) (hly : wy.length ≤ nb) (hrx : ∀ i ∈ wx, i < na) (hry : ∀ i ∈ wy, i < nb) :
    Calls Try.prog 13 #[.slice a na cap, vx, .slice b nb cap2, vy] w fun e w' => ∃ v, e = .returned v ∧ Out w v (jexp xs wx ys wy) w' := by
  obtain ⟨ax, capx, rfl, hfx0⟩ := hvx.form
  obtain ⟨ay, capy, rfl, hfy0⟩ := hvy.form
  have hfx := win_fn hfx0
  have hfy := win_fn hfy0
  have hxl := hx.hlen
  have hyl := hy.hlen
  have qx : ∀ i, i < wx.length → wx.getD i 0 ≤ 1048576 := fun i hi => by
    have := hrx (wx.getD i 0) (by simp [List.getD, List.getElem?_eq_getElem hi])
    omega
  have qy : ∀ i, i < wy.length → wy.getD i 0 ≤ 1048576 := fun i hi => by
    have := hry (wy.getD i 0) (by simp [List.getD, List.getElem?_eq_getElem hi])
    omega
  have sx : wx = [] ∨ ∃ x0 tx, wx = x0 :: tx := by
    cases wx with
    | nil => exact .inl rfl
    | cons p q => exact .inr ⟨p, q, rfl⟩
  have sy : wy = [] ∨ ∃ y0 ty, wy = y0 :: ty := by
    cases wy with
    | nil => exact .inl rfl
    | cons p q => exact .inr ⟨p, q, rfl⟩
  rcases sx with hwx | ⟨x0, tx, hwx⟩
  · have h := je1 a na cap ax capx b nb cap2 ay wy.length capy (fun i => wy.getD i 0) w hfy ha (by omega) qy
    rw [range_getD_add, ← hxl] at h
    have e : jexp xs wx ys wy = wy.map (· + xs.length) := by rw [hwx]; simp only [jexp]
    have el : wx.length = 0 := by rw [hwx]; rfl
    rw [e, el]
    rw [hxl] at h ⊢
    exact h
  rcases sy with hwy | ⟨y0, ty, hwy⟩
  · have hp : 0 < wx.length := by rw [hwx]; simp
    have h := je2 a na cap ax wx.length capx (fun i => wx.getD i 0) b nb cap2 ay capy w hp hfx ha (by omega) qx
    rw [range_getD] at h
    have e : jexp xs wx ys wy = wx := by rw [hwx, hwy]; simp only [jexp]
    have el : wy.length = 0 := by rw [hwy]; rfl
    rw [e, el]
    exact h
  have hp : 0 < wx.length := by rw [hwx]; simp
  have hp' : 0 < wy.length := by rw [hwy]; simp
  obtain ⟨gx, rfl, hcx⟩ := hfx hp
  obtain ⟨gy, rfl, hcy⟩ := hfy hp'
  have ex : wx.getD 0 0 = x0 := by rw [hwx]; rfl
  have ey : wy.getD 0 0 = y0 := by rw [hwy]; rfl
  have lx : x0 < na := hrx x0 (by rw [hwx]; simp)
  have ly : y0 < nb := hry y0 (by rw [hwy]; simp)
  obtain ⟨bx, ox, rfl, _, hrecx⟩ := hx.hat (by omega)
  obtain ⟨bY, oy, rfl, _, hrecy⟩ := hy.hat (by omega)
  obtain ⟨c1, c2, c3⟩ := hrecx x0 (by omega)
  obtain ⟨d1, d2, d3⟩ := hrecy y0 (by omega)
  rw [← el_lt xs x0 (by omega)] at c1 c2 c3
  rw [← el_lt ys y0 (by omega)] at d1 d2 d3
  have hrk : rnk (el xs x0) (el ys y0) = -1 ∨ rnk (el xs x0) (el ys y0) = 1 ∨ rnk (el xs x0) (el ys y0) = 0 := by
    unfold rnk
    split
    · exact .inl rfl
    · split
      · exact .inr (.inl rfl)
      · exact .inr (.inr rfl)
  rcases hrk with hr | hr | hr
  · have h := je3lt bx ox na cap gx wx.length capx (fun i => wx.getD i 0) bY oy nb cap2 gy wy.length capy (fun i => wy.getD i 0) (el xs x0) (el ys y0) w hp hp' hcx hcy ha hb (by omega) (by omega) qx qy x0 y0 ex ey lx ly c1 c2 c3 d1 d2 d3 hr
    rw [range_getD] at h
    have e : jexp xs wx ys wy = wx := by rw [hwx, hwy]; simp only [jexp]; rw [hr, if_pos (by decide), if_neg (by decide)]; simp
    rw [e]
    exact h
  · have h := je3gt bx ox na cap gx wx.length capx (fun i => wx.getD i 0) bY oy nb cap2 gy wy.length capy (fun i => wy.getD i 0) (el xs x0) (el ys y0) w hp hp' hcx hcy ha hb (by omega) (by omega) qx qy x0 y0 ex ey lx ly c1 c2 c3 d1 d2 d3 hr
    rw [range_getD_add] at h
    have e : jexp xs wx ys wy = wy.map (· + na) := by rw [hwx, hwy, ← hxl]; simp only [jexp]; rw [hr, if_neg (by decide), if_pos (by decide)]; simp
    rw [e]
    exact h
  · have h := je3eq bx ox na cap gx wx.length capx (fun i => wx.getD i 0) bY oy nb cap2 gy wy.length capy (fun i => wy.getD i 0) (el xs x0) (el ys y0) w hp hp' hcx hcy ha hb (by omega) (by omega) qx qy x0 y0 ex ey lx ly c1 c2 c3 d1 d2 d3 hr
    rw [range_getD, range_getD_add] at h
    have e : jexp xs wx ys wy = wx ++ wy.map (· + na) := by rw [hwx, hwy, ← hxl]; simp only [jexp]; rw [hr, if_pos (by decide), if_pos (by decide)]
    rw [e]
    exact h
end Go.Proofs.Qxb6632316a
