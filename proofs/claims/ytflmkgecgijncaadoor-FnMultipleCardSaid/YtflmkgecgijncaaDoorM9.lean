/-
  The tangent, and multiples by chords and tangents.
-/
import Derived.Test.YtflmkgecgijncaaDoorM8
namespace Mth
section
variable {n : Nat} [NeZero n]

theorem d_1 {K A l U W s : Fin n} (hl : l * (2 * K * W) = s) {U3 : Fin n} (h3 : U3 = K * (l * l) - A - U - U) : 4 * (K * (W * W)) * (K * U3) = K * (s * s) - (A + 2 * U) * (4 * (K * (W * W))) * K := by
  rw [h3, ← hl]; clear hl h3; grind
theorem d_2 {K W U A U3 : Fin n} (c : K * (W * W) = U * U * U + A * (U * U) + U)
    (t : 4 * (K * (W * W)) * (K * U3) = K * ((3 * (U * U) + 2 * A * U + 1) * (3 * (U * U) + 2 * A * U + 1)) - (A + 2 * U) * (4 * (K * (W * W))) * K) :
    K * (4 * (K * (W * W)) * U3) = K * ((U * U - 1) * (U * U - 1)) := by
  have l : K * (4 * (K * (W * W)) * U3) = 4 * (K * (W * W)) * (K * U3) := by clear c t; grind
  rw [l, t, c]; clear l t c; grind
theorem d_3 {K e Y X W D a m U3 q : Fin n} (hw : W * (m * m) = e * X * a) (he : e * e = 1) (ho : X * X * a = 1 - Y * Y) (hq : q * (m * m) = (1 + Y) * (1 + Y) - (1 - Y) * (1 - Y))
    (hK : K * (1 - D) = 4 * e) (t : 4 * (K * (W * W)) * U3 = q * q) : 4 * K * (U3 * (1 - Y * Y) * a) = 4 * K * (e * (Y * Y) * (1 - D)) := by
  have l : 4 * K * (U3 * (1 - Y * Y) * a) = (e * e) * (4 * K * (U3 * (1 - Y * Y) * a)) := by rw [he]; clear hw he ho hq hK t; grind
  have r : 4 * K * (e * (Y * Y) * (1 - D)) = 4 * e * (Y * Y) * (K * (1 - D)) := by clear hw he ho hq hK t l; grind
  rw [l, r, hK, ← ho]
  have l : e * e * (4 * K * (U3 * (X * X * a) * a)) = 4 * (K * ((e * X * a) * (e * X * a))) * U3 := by clear hw he ho hq hK t l r; grind
  rw [l, ← hw]
  have l : 4 * (K * ((W * (m * m)) * (W * (m * m)))) * U3 = (4 * (K * (W * W)) * U3) * ((m * m) * (m * m)) := by clear hw he ho hq hK t l r; grind
  rw [l, t]
  have l : q * q * ((m * m) * (m * m)) = (q * (m * m)) * (q * (m * m)) := by clear hw he ho hq hK t l r; grind
  have r : 4 * e * (Y * Y) * (4 * e) = (e * e) * (16 * (Y * Y)) := by clear hw he ho hq hK t l; grind
  rw [l, hq, r, he]; clear hw he ho hq hK t l r; grind
theorem d_4 {D X Y : Fin n} (ho : X * X * (1 - D * (Y * Y)) = 1 - Y * Y) : (1 - X * X) * (1 - D * (Y * Y)) = Y * Y * (1 - D) := by
  have : (1 - X * X) * (1 - D * (Y * Y)) = (1 - D * (Y * Y)) - X * X * (1 - D * (Y * Y)) := by clear ho; grind
  rw [this, ho]; clear this ho; grind
theorem d_5 {D X Y : Fin n} (o : On D X Y) : 1 - D * (X * X * Y * Y) - Y * Y + X * X = 2 * (1 - Y * Y) := by unfold On at o; grind
theorem d_6 {D X Y : Fin n} (o : On D X Y) : 1 - D * (X * X * Y * Y) + Y * Y - X * X = 2 * (1 - X * X) := by unfold On at o; grind
theorem d_7 {D X Y X3 : Fin n} (o : On D X Y) (hx : X3 * (1 + D * (X * X * Y * Y)) = X * Y + Y * X) : X3 * (X * X + Y * Y) = 2 * (X * Y) := by
  unfold On at o
  have : X * X + Y * Y = 1 + D * (X * X * Y * Y) := by rw [o]; clear o hx; grind
  rw [this, hx]; clear this o hx; grind
/-- R = U^4 + 2 A U^3 + 6 U^2 + 2 A U + 1, behind (1 - Y)^4. -/
theorem d_8 {K e U Y D X : Fin n} (he : e * e = 1) (hu : U * (1 - Y) = e * (1 + Y)) (hK : D * K = K - 4 * e) (ho : X * X * (1 - D * (Y * Y)) = 1 - Y * Y) :
    (U * U * U * U + 2 * (K - 2 * e) * (U * U * U) + 6 * (U * U) + 2 * (K - 2 * e) * U + 1) * ((1 - Y) * (1 - Y) * ((1 - Y) * (1 - Y))) = 4 * e * K * ((1 - D * (Y * Y)) * (X * X + Y * Y)) := by
  have l : (U * U * U * U + 2 * (K - 2 * e) * (U * U * U) + 6 * (U * U) + 2 * (K - 2 * e) * U + 1) * ((1 - Y) * (1 - Y) * ((1 - Y) * (1 - Y))) =
     (U * (1 - Y)) * (U * (1 - Y)) * (U * (1 - Y)) * (U * (1 - Y)) + 2 * (K - 2 * e) * ((U * (1 - Y)) * (U * (1 - Y)) * (U * (1 - Y))) * (1 - Y) + 6 * ((U * (1 - Y)) * (U * (1 - Y))) * ((1 - Y) * (1 - Y)) + 2 * (K - 2 * e) * (U * (1 - Y)) * ((1 - Y) * (1 - Y) * (1 - Y)) + (1 - Y) * (1 - Y) * (1 - Y) * (1 - Y) := by clear he hu hK ho; grind
  rw [l, hu]
  have r : 4 * e * K * ((1 - D * (Y * Y)) * (X * X + Y * Y)) = 4 * e * (K * (X * X * (1 - D * (Y * Y))) + (K - (D * K) * (Y * Y)) * (Y * Y)) := by clear he hu hK ho l; grind
  rw [r, ho, hK]
  clear l r hu hK ho
  grind
theorem d_9 {K A W U U3 W3 l s : Fin n} (hs : s = 3 * (U * U) + 2 * A * U + 1) (hl : l * (2 * K * W) = s) (g3 : W3 = l * (U - U3) - W) (c : K * (W * W) = U * U * U + A * (U * U) + U)
    (t : 4 * (K * (W * W)) * U3 = (U * U - 1) * (U * U - 1)) : (2 * K * W) * (4 * (K * (W * W))) * W3 = (U * U - 1) * (U * U * U * U + 2 * A * (U * U * U) + 6 * (U * U) + 2 * A * U + 1) := by
  have l : (2 * K * W) * (4 * (K * (W * W))) * W3 = (l * (2 * K * W)) * (4 * (K * (W * W)) * U - 4 * (K * (W * W)) * U3) - 2 * (K * (W * W)) * (4 * (K * (W * W))) := by rw [g3]; clear hs hl g3 c t; grind
  rw [l, hl, hs, t, c]
  clear l hs hl g3 c t
  grind
theorem d_10 {K e W U Y X X3 D R M : Fin n} (he : e * e = 1) (hM : M = (1 - Y) * (1 - Y) * ((1 - Y) * (1 - Y))) (hR : R * M = 4 * e * K * ((1 - D * (Y * Y)) * (X * X + Y * Y))) (hx : X3 * (X * X + Y * Y) = 2 * (X * Y))
    (hu : U * (1 - Y) = e * (1 + Y)) (hw : W * ((1 - Y) * (1 - Y)) = e * X * (1 - D * (Y * Y))) : M * (R * X3) = M * (2 * K * W * (U * U - 1)) := by
  have l : M * (R * X3) = (R * M) * X3 := by clear he hM hR hx hu hw; grind
  rw [l, hR]
  have l : 4 * e * K * ((1 - D * (Y * Y)) * (X * X + Y * Y)) * X3 = 4 * e * K * (1 - D * (Y * Y)) * (X3 * (X * X + Y * Y)) := by clear he hM hR hx hu hw l; grind
  rw [l, hx, hM]
  have r : (1 - Y) * (1 - Y) * ((1 - Y) * (1 - Y)) * (2 * K * W * (U * U - 1)) = 2 * K * (W * ((1 - Y) * (1 - Y))) * ((U * (1 - Y)) * (U * (1 - Y)) - (1 - Y) * (1 - Y)) := by clear he hM hR hx hu hw l; grind
  rw [r, hw, hu]
  have : (e * (1 + Y)) * (e * (1 + Y)) = (e * e) * ((1 + Y) * (1 + Y)) := by clear he hM hR hx hu hw l r; grind
  rw [this, he]
  clear he hM hR hx hu hw l r this
  grind

theorem q_1 (U Y : Fin n) : (U * U - 1) * ((1 - Y) * (1 - Y)) = (U * (1 - Y)) * (U * (1 - Y)) - (1 - Y) * (1 - Y) := by grind
theorem q_2 (e Y : Fin n) : (e * (1 + Y)) * (e * (1 + Y)) = (e * e) * ((1 + Y) * (1 + Y)) := by grind
theorem mul_sh (a b c d : Fin n) : a * b * (c * d) = (a * d) * (c * b) := by grind
theorem mul_s2 (a b c : Fin n) : 2 * a * (b * c) = 2 * (b * a * c) := by grind
theorem mul_s3 (a b c : Fin n) : 2 * a * (b * c) = 2 * b * (a * c) := by grind
theorem mul_s4 (a b c : Fin n) : 2 * (a * b * c) = 2 * a * (b * c) := by grind
theorem w_1 {A B R q W3 X3 U3 : Fin n} (k1 : A * B * W3 = q * R) (k2 : R * X3 = A * q) (t : B * U3 = q * q) : A * B * (W3 * X3) = A * B * U3 := by
  have l : A * B * (W3 * X3) = (A * B * W3) * X3 := by clear k1 k2 t; grind
  rw [l, k1]
  have l : q * R * X3 = q * (R * X3) := by clear k1 k2 t l; grind
  rw [l, k2]
  have l : A * B * U3 = A * (B * U3) := by clear k1 k2 t l; grind
  rw [l, t]; clear k1 k2 t l; grind
theorem w_2 {R q : Fin n} (k : R * 0 = q) : 0 = q := by grind
theorem w_3 (R : Fin n) : 0 * R = 0 := by grind

variable {iv : Fin n → Fin n}

/-- The third place of a tangent. -/
theorem tangent (h : Fld n iv) {D e K : Fin n} (hD : NonSq D) (he : e * e = 1) (hK : D * K = K - 4 * e) (K0 : K ≠ 0) {X Y U W l : Fin n}
    (a : At D e X Y U W) (w0 : W ≠ 0) (hl : l * (2 * K * W) = 3 * (U * U) + 2 * (K - 2 * e) * U + 1) {U3 W3 : Fin n} (h3 : U3 = K * (l * l) - (K - 2 * e) - U - U) (g3 : W3 = l * (U - U3) - W) :
    At D e (addx iv D X Y X Y) (addy iv D X Y X Y) U3 W3 := by
  have e0 := e_ne h he
  have o3 := closed h hD a.on a.on
  have hx := addx_eq h hD a.on a.on
  have hy := addy_eq h hD a.on a.on
  have dp := den_pos h hD a.on a.on
  have dn := den_neg h hD a.on a.on
  generalize addx iv D X Y X Y = X3 at *
  generalize addy iv D X Y X Y = Y3 at *
  have x0 : X ≠ 0 := fun h0 => w0 (a.z h0)
  have c := a.curve h he hK
  have four : (4 : Fin n) ≠ 0 := by rw [four_eq]; exact h.ne_mul h.two h.two
  have t : 4 * (K * (W * W)) * U3 = (U * U - 1) * (U * U - 1) := h.cancel K0 (d_2 c (d_1 hl h3))
  have q : (U * U - 1) * ((1 - Y) * (1 - Y)) = (1 + Y) * (1 + Y) - (1 - Y) * (1 - Y) := by
    have : (U * U - 1) * ((1 - Y) * (1 - Y)) = (U * (1 - Y)) * (U * (1 - Y)) - (1 - Y) * (1 - Y) := q_1 U Y
    rw [this, a.u, q_2, he, one_m]
  have t2 := h.cancel (h.ne_mul four K0) (d_3 (a.wy h) he (on_a a.on) q (one_s hK) t)
  have s5 : U3 * (1 - Y3) = e * (1 + Y3) := by
    refine h.cancel (h.ne_mul dn (a_ne h hD Y)) ?_
    have r1 := t_r1 (t := D * (X * X * Y * Y)) rfl hy
    have r2 := t_r2 (t := D * (X * X * Y * Y)) rfl hy
    rw [d_5 a.on] at r1
    rw [d_6 a.on] at r2
    have l : (1 - D * (X * X * Y * Y)) * (1 - D * (Y * Y)) * (U3 * (1 - Y3)) = ((1 - D * (X * X * Y * Y)) * (1 - Y3)) * (U3 * (1 - D * (Y * Y))) := mul_sh _ _ _ _
    have r : (1 - D * (X * X * Y * Y)) * (1 - D * (Y * Y)) * (e * (1 + Y3)) = ((1 - D * (X * X * Y * Y)) * (1 + Y3)) * (e * (1 - D * (Y * Y))) := mul_sh _ _ _ _
    rw [l, r, r1, r2]
    have l : 2 * (1 - Y * Y) * (U3 * (1 - D * (Y * Y))) = 2 * (U3 * (1 - Y * Y) * (1 - D * (Y * Y))) := mul_s2 _ _ _
    have r : 2 * (1 - X * X) * (e * (1 - D * (Y * Y))) = 2 * e * ((1 - X * X) * (1 - D * (Y * Y))) := mul_s3 _ _ _
    rw [l, r, t2, d_4 (on_a a.on)]
    exact mul_s4 _ _ _
  have s6 : Y3 ≠ 1 := by
    intro h0
    rw [h0] at s5
    exact (h.dom (e2 s5)).elim e0 h.two
  have m4 := h.ne_mul (h.ne_mul a.m0 a.m0) (h.ne_mul a.m0 a.m0)
  have k1 := d_9 rfl hl g3 c t
  have k2 := h.cancel m4 (d_10 he rfl (d_8 he a.u hK (on_a a.on)) (d_7 a.on hx) a.u (a.wy h))
  have n2 : 2 * K * W ≠ 0 := h.ne_mul (h.ne_mul h.two K0) w0
  have n4 : 4 * (K * (W * W)) ≠ 0 := h.ne_mul four (h.ne_mul K0 (h.ne_mul w0 w0))
  refine ⟨o3, s6, s5, ?_, ?_⟩
  · refine h.cancel (h.ne_mul n2 n4) ?_
    exact w_1 k1 k2 t
  · intro x3
    rw [x3] at k2
    have : U * U - 1 = 0 := (h.dom ((w_2 k2).symm)).resolve_left n2
    rw [this] at k1
    exact (h.dom (k1.trans (w_3 _))).resolve_left (h.ne_mul n2 n4)
end
end Mth
