/-
  Lines through points of a Montgomery curve tell the sums of the Edwards curve's points.
-/
import Derived.Test.YtflmkgecgijncaaDoorM4
namespace Mth
section
variable {n : Nat} [NeZero n]

theorem poly0 (D p y1 y2 a b m : Fin n) (hp : p = y1 * y2) (ha : a = 1 - D * (y1 * y1)) (hb : b = 1 - D * (y2 * y2)) (hm : m = (1 - y1 * y1) * (1 - y2 * y2)) :
    (b * (1 - y1 * y1) + a * (1 - y2 * y2)) * (1 - p) - 2 * (1 - D * p) * m = (1 - D) * ((y2 - y1) * (y2 - y1)) * (1 + p) := by
  subst hp ha hb hm; grind
theorem poly1 (D p y1 y2 a b : Fin n) (hp : p = y1 * y2) (ha : a = 1 - D * (y1 * y1)) (hb : b = 1 - D * (y2 * y2)) :
    (b * (1 - y1 * y1) + a * (1 - y2 * y2)) * (1 - D * p) - 2 * (a * b) * (1 - p) = - ((1 - D) * ((y2 - y1) * (y2 - y1)) * (1 + D * p)) := by
  subst hp ha hb; grind

theorem chord_mul (D x1 y1 x2 y2 : Fin n) (h1 : x1 * x1 * (1 - D * (y1 * y1)) = 1 - y1 * y1) (h2 : x2 * x2 * (1 - D * (y2 * y2)) = 1 - y2 * y2) :
    (1 - D * (y1 * y1)) * (1 - D * (y2 * y2)) * ((x1 - x2) * (x1 - x2)) * (1 - D * (x1 * x2 * y1 * y2) - y1 * y2 + x1 * x2) = (1 - D) * ((y2 - y1) * (y2 - y1)) * (1 - D * (x1 * x2 * y1 * y2) + y1 * y2 - x1 * x2) := by
  have e0 := poly0 D (y1 * y2) y1 y2 _ _ _ rfl rfl rfl rfl
  have e1 := poly1 D (y1 * y2) y1 y2 _ _ rfl rfl rfl
  have e2 : (1 - D * (y1 * y1)) * (1 - D * (y2 * y2)) * ((x1 - x2) * (x1 - x2)) = ((1 - D * (y2 * y2)) * (1 - y1 * y1) + (1 - D * (y1 * y1)) * (1 - y2 * y2)) - 2 * ((1 - D * (y1 * y1)) * (1 - D * (y2 * y2))) * (x1 * x2) := by
    rw [← h1, ← h2]; grind
  have e3 : ((1 - D * (y1 * y1)) * (1 - D * (y2 * y2))) * ((x1 * x2) * (x1 * x2)) = (1 - y1 * y1) * (1 - y2 * y2) := by rw [← h1, ← h2]; grind
  rw [e2]
  have hp : D * (x1 * x2 * y1 * y2) = D * (y1 * y2) * (x1 * x2) := by grind
  rw [hp]
  generalize (1 - D * (y2 * y2)) * (1 - y1 * y1) + (1 - D * (y1 * y1)) * (1 - y2 * y2) = S at *
  generalize (1 - D * (y1 * y1)) * (1 - D * (y2 * y2)) = ab at *
  generalize (1 - y1 * y1) * (1 - y2 * y2) = m at *
  generalize (1 - D) * ((y2 - y1) * (y2 - y1)) = d at *
  generalize x1 * x2 = q at *
  generalize y1 * y2 = p at *
  clear h1 h2 e2 hp
  grind

theorem line_mul (D x1 y1 x2 y2 : Fin n) (h1 : x1 * x1 + y1 * y1 = 1 + D * (x1 * x1) * (y1 * y1)) (h2 : x2 * x2 + y2 * y2 = 1 + D * (x2 * x2) * (y2 * y2)) :
    x2 * (x1 * y2 + y1 * x2) * ((y1 * y2 - x1 * x2) - y2 * (1 - D * (x1 * x2 * y1 * y2))) * (1 + y1)
      + x1 * (x1 * y2 + y1 * x2) * (y1 * (1 - D * (x1 * x2 * y1 * y2)) - (y1 * y2 - x1 * x2)) * (1 + y2)
      + x1 * x2 * (y1 - y2) * ((1 - D * (x1 * x2 * y1 * y2)) + (y1 * y2 - x1 * x2)) * (1 + D * (x1 * x2 * y1 * y2)) = 0 := by
  have k1 : D * (x1 * x2 * y1 * y2) * (x1 * y1) = (x1 * x1 + y1 * y1 - 1) * (x2 * y2) := by grind
  have k2 : D * (x1 * x2 * y1 * y2) * (x2 * y2) = (x2 * x2 + y2 * y2 - 1) * (x1 * y1) := by grind
  have k3 : D * (x1 * x2 * y1 * y2) * (D * (x1 * x2 * y1 * y2)) = (x2 * x2 + y2 * y2 - 1) * (x1 * x1 + y1 * y1 - 1) := by grind
  clear h1 h2
  generalize D * (x1 * x2 * y1 * y2) = t at *
  grind

variable {iv : Fin n → Fin n}

/-- (U, W) is the place of the point (X, Y), on K W^2 = U^3 + A U^2 + U. -/
structure At (D e X Y U W : Fin n) : Prop where
  on : On D X Y
  y1 : Y ≠ 1
  u : U * (1 - Y) = e * (1 + Y)
  w : W * X = U
  z : X = 0 → W = 0

theorem on_a {D X Y : Fin n} (h : On D X Y) : X * X * (1 - D * (Y * Y)) = 1 - Y * Y := by unfold On at h; grind

theorem At.m0 {D e X Y U W : Fin n} (a : At D e X Y U W) : 1 - Y ≠ 0 := fun h => a.y1 (by grind)

theorem a_ne (h : Fld n iv) {D : Fin n} (hD : NonSq D) (Y : Fin n) : 1 - D * (Y * Y) ≠ 0 := by
  intro h0
  have e : (1 : Fin n) * 1 = D * (Y * Y) := by grind
  have := (hD.mul h e).1
  exact h.two (by grind)

/-- At X = 0 there is the place (0, 0). -/
theorem At.zero (h : Fld n iv) {D e X Y U W : Fin n} (a : At D e X Y U W) (x0 : X = 0) : Y = -1 ∧ U = 0 ∧ W = 0 := by
  have o := a.on
  have u := a.u
  have hy : Y = -1 := by
    have : (1 - Y) * (1 + Y) = 0 := by unfold On at o; subst x0; grind
    rcases h.dom this with r | r
    · exact absurd r a.m0
    · grind
  refine ⟨hy, ?_, a.z x0⟩
  have := a.w
  rw [x0] at this; grind

/-- W and Y. -/
theorem At.wy (h : Fld n iv) {D e X Y U W : Fin n} (a : At D e X Y U W) : W * ((1 - Y) * (1 - Y)) = e * X * (1 - D * (Y * Y)) := by
  by_cases x0 : X = 0
  · have := a.z x0; subst x0 this; grind
  · refine h.cancel x0 ?_
    have o := on_a a.on
    have u := a.u
    have w := a.w
    have t : X * (e * X * (1 - D * (Y * Y))) = e * (1 - Y * Y) := by rw [← o]; grind
    rw [t]; clear o t
    subst w; clear a; grind

theorem At.q0 {D e K X Y U W : Fin n} (he : e * e = 1) (hK : D * K = K - 4 * e) (a : At D e X Y U W) :
    (1 - Y) * (1 - Y) * (U * U + (K - 2 * e) * U + 1) = e * K * (1 - D * (Y * Y)) := by
  have u := a.u
  have t : (1 - Y) * (1 - Y) * (U * U + (K - 2 * e) * U + 1) = (U * (1 - Y)) * (U * (1 - Y)) + (K - 2 * e) * (1 - Y) * (U * (1 - Y)) + (1 - Y) * (1 - Y) := by grind
  rw [t, u]; clear t u a
  have t : e * K * (1 - D * (Y * Y)) = e * K - e * (D * K) * (Y * Y) := by grind
  rw [t, hK]; clear t hK
  grind

/-- The curve's equation. -/
theorem At.curve (h : Fld n iv) {D e K X Y U W : Fin n} (he : e * e = 1) (hK : D * K = K - 4 * e) (a : At D e X Y U W) :
    K * (W * W) = U * U * U + (K - 2 * e) * (U * U) + U := by
  by_cases x0 : X = 0
  · obtain ⟨_, u0, w0⟩ := a.zero h x0; subst u0 w0; grind
  · have m0 := a.m0
    have q0 := a.q0 he hK
    have wy := a.wy h
    have u := a.u
    have w := a.w
    have o := on_a a.on
    refine h.cancel (h.ne_mul x0 (h.ne_mul m0 m0)) ?_
    have t1 : X * ((1 - Y) * (1 - Y)) * (K * (W * W)) = K * (W * ((1 - Y) * (1 - Y))) * (W * X) := by grind
    have t2 : X * ((1 - Y) * (1 - Y)) * (U * U * U + (K - 2 * e) * (U * U) + U) = X * U * ((1 - Y) * (1 - Y) * (U * U + (K - 2 * e) * U + 1)) := by grind
    rw [t1, t2, q0, wy, w]; grind

theorem sub0 {a b : Fin n} (h : a - b = 0) : a = b := by grind
theorem add0 {a b : Fin n} (h : a + b = 0) : a = - b := by grind
theorem t_s3 {U1 U2 U3 K e l : Fin n} (h3 : U3 = K * (l * l) - (K - 2 * e) - U1 - U2) : U3 * ((U2 - U1) * (U2 - U1)) = K * ((l * (U2 - U1)) * (l * (U2 - U1))) - ((K - 2 * e) + U1 + U2) * ((U2 - U1) * (U2 - U1)) := by
  rw [h3]; clear h3; grind
theorem t_s3b (K W1 W2 : Fin n) : K * ((W2 - W1) * (W2 - W1)) = K * (W2 * W2) + K * (W1 * W1) - 2 * K * (W1 * W2) := by grind
theorem t_s3c (U1 U2 a z : Fin n) : (U2 * U2 * U2 + a * (U2 * U2) + U2) + (U1 * U1 * U1 + a * (U1 * U1) + U1) - z - (a + U1 + U2) * ((U2 - U1) * (U2 - U1)) = U1 * U2 * (U1 + U2 + 2 * a) + (U1 + U2) - z := by grind
theorem t_s4a (U1 U2 Y1 Y2 : Fin n) : (U2 - U1) * (1 - Y1) * (1 - Y2) = (U2 * (1 - Y2)) * (1 - Y1) - (U1 * (1 - Y1)) * (1 - Y2) := by grind
theorem t_s4b (e Y1 Y2 : Fin n) : (e * (1 + Y2)) * (1 - Y1) - (e * (1 + Y1)) * (1 - Y2) = 2 * e * (Y2 - Y1) := by grind
theorem t_s4c (U1 U2 U3 Y1 Y2 : Fin n) : U3 * (((U2 - U1) * (1 - Y1) * (1 - Y2)) * ((U2 - U1) * (1 - Y1) * (1 - Y2))) = (U3 * ((U2 - U1) * (U2 - U1))) * (((1 - Y1) * (1 - Y2)) * ((1 - Y1) * (1 - Y2))) := by grind
theorem t_s4d (U1 U2 W1 W2 Y1 Y2 a K : Fin n) : (U1 * U2 * (U1 + U2 + 2 * a) + (U1 + U2) - 2 * K * (W1 * W2)) * (((1 - Y1) * (1 - Y2)) * ((1 - Y1) * (1 - Y2))) =
  (U1 * (1 - Y1)) * (U2 * (1 - Y2)) * ((U1 * (1 - Y1)) * (1 - Y2) + (U2 * (1 - Y2)) * (1 - Y1) + 2 * a * ((1 - Y1) * (1 - Y2))) + (1 - Y1) * (1 - Y2) * ((U1 * (1 - Y1)) * (1 - Y2) + (U2 * (1 - Y2)) * (1 - Y1)) - 2 * K * ((W1 * ((1 - Y1) * (1 - Y1))) * (W2 * ((1 - Y2) * (1 - Y2)))) := by grind
theorem t_s4e (D X1 X2 Y1 Y2 : Fin n) : (1 - D * (Y1 * Y1)) * (1 - D * (Y2 * Y2)) * ((X1 - X2) * (X1 - X2)) = (X1 * X1 * (1 - D * (Y1 * Y1))) * (1 - D * (Y2 * Y2)) + (X2 * X2 * (1 - D * (Y2 * Y2))) * (1 - D * (Y1 * Y1)) - 2 * ((1 - D * (Y1 * Y1)) * (1 - D * (Y2 * Y2))) * (X1 * X2) := by grind
theorem one_m (a : Fin n) : 1 * a = a := by grind
theorem one_s {K D e : Fin n} (hK : D * K = K - 4 * e) : K * (1 - D) = 4 * e := by grind
theorem t_s4f {D K e X1 X2 Y1 Y2 U3 : Fin n} (he : e * e = 1) (hK : D * K = K - 4 * e)
  (t : U3 * ((2 * e * (Y2 - Y1)) * (2 * e * (Y2 - Y1))) = (e * (1 + Y1)) * (e * (1 + Y2)) * ((e * (1 + Y1)) * (1 - Y2) + (e * (1 + Y2)) * (1 - Y1) + 2 * (K - 2 * e) * ((1 - Y1) * (1 - Y2))) + (1 - Y1) * (1 - Y2) * ((e * (1 + Y1)) * (1 - Y2) + (e * (1 + Y2)) * (1 - Y1)) - 2 * K * ((e * X1 * (1 - D * (Y1 * Y1))) * (e * X2 * (1 - D * (Y2 * Y2))))) :
  4 * U3 * ((Y2 - Y1) * (Y2 - Y1)) = K * ((1 - Y1 * Y1) * (1 - D * (Y2 * Y2)) + (1 - Y2 * Y2) * (1 - D * (Y1 * Y1)) - 2 * ((1 - D * (Y1 * Y1)) * (1 - D * (Y2 * Y2))) * (X1 * X2)) := by
  have l : U3 * ((2 * e * (Y2 - Y1)) * (2 * e * (Y2 - Y1))) = (e * e) * (4 * U3 * ((Y2 - Y1) * (Y2 - Y1))) := by clear t hK he; grind
  have r : K * ((1 - Y1 * Y1) * (1 - D * (Y2 * Y2)) + (1 - Y2 * Y2) * (1 - D * (Y1 * Y1)) - 2 * ((1 - D * (Y1 * Y1)) * (1 - D * (Y2 * Y2))) * (X1 * X2)) = (1 - Y1 * Y1) * (K - (D * K) * (Y2 * Y2)) + (1 - Y2 * Y2) * (K - (D * K) * (Y1 * Y1)) - 2 * K * ((1 - D * (Y1 * Y1)) * (1 - D * (Y2 * Y2))) * (X1 * X2) := by clear t hK he l; grind
  have m : 2 * K * ((e * X1 * (1 - D * (Y1 * Y1))) * (e * X2 * (1 - D * (Y2 * Y2)))) = (e * e) * (2 * K * ((1 - D * (Y1 * Y1)) * (1 - D * (Y2 * Y2))) * (X1 * X2)) := by clear t hK he l r; grind
  rw [r, hK]
  rw [l, m, he] at t
  generalize 2 * K * ((1 - D * (Y1 * Y1)) * (1 - D * (Y2 * Y2))) * (X1 * X2) = z at *
  clear l r m hK
  have t : 4 * U3 * ((Y2 - Y1) * (Y2 - Y1)) = _ := (one_m _).symm.trans t
  rw [t]; clear t
  grind
theorem t_r1 {d t p q Y3 : Fin n} (hd : d = 1 - t) (hy : Y3 * d = p - q) : d * (1 - Y3) = 1 - t - p + q := by
  have : d * (1 - Y3) = d - Y3 * d := by clear hy hd; grind
  rw [this, hy, hd]; clear this hy hd; grind
theorem t_r2 {d t p q Y3 : Fin n} (hd : d = 1 - t) (hy : Y3 * d = p - q) : d * (1 + Y3) = 1 - t + p - q := by
  have : d * (1 + Y3) = d + Y3 * d := by clear hy hd; grind
  rw [this, hy, hd]; clear this hy hd; grind
theorem t_r3 (y d U3 Y3 : Fin n) : 4 * (y * d) * (U3 * (1 - Y3)) = (4 * U3 * y) * (d * (1 - Y3)) := by grind
theorem t_r4 (K D y d Y3 : Fin n) : K * ((1 - D) * y * (d * (1 + Y3))) = (K * (1 - D)) * (y * (d * (1 + Y3))) := by grind
theorem t_r5 (e y d Y3 : Fin n) : (4 * e) * (y * (d * (1 + Y3))) = 4 * (y * d) * (e * (1 + Y3)) := by grind
theorem t_s8 {l U1 U2 U3 W1 W3 : Fin n} (g3 : W3 = l * (U1 - U3) - W1) : W3 * (U2 - U1) = (l * (U2 - U1)) * (U1 - U3) - W1 * (U2 - U1) := by rw [g3]; clear g3; grind
theorem t_s8b (U1 U2 U3 W1 W2 : Fin n) : (W2 - W1) * (U1 - U3) - W1 * (U2 - U1) = W2 * (U1 - U3) - W1 * (U2 - U3) := by grind
theorem t_k1 (X1 X2 X3 Y1 Y2 Y3 U1 U2 U3 : Fin n) : (1 - Y1) * ((1 - Y2) * (1 - Y3)) * (X3 * X1 * U2 * (U1 - U3) - X3 * X2 * U1 * (U2 - U3)) =
          X3 * X1 * (U2 * (1 - Y2)) * ((U1 * (1 - Y1)) * (1 - Y3) - (U3 * (1 - Y3)) * (1 - Y1)) - X3 * X2 * (U1 * (1 - Y1)) * ((U2 * (1 - Y2)) * (1 - Y3) - (U3 * (1 - Y3)) * (1 - Y2)) := by grind
theorem t_k2 (X1 X2 Y1 Y2 Y3 U1 U2 U3 : Fin n) : (1 - Y1) * ((1 - Y2) * (1 - Y3)) * (X1 * X2 * U3 * (U2 - U1)) = X1 * X2 * (U3 * (1 - Y3)) * ((U2 * (1 - Y2)) * (1 - Y1) - (U1 * (1 - Y1)) * (1 - Y2)) := by grind
theorem t_k3 {X1 X2 X3 Y1 Y2 Y3 e : Fin n} (s7 : X2 * X3 * (Y3 - Y2) * (1 + Y1) + X1 * X3 * (Y1 - Y3) * (1 + Y2) + X1 * X2 * (Y1 - Y2) * (1 + Y3) = 0) :
  X3 * X1 * (e * (1 + Y2)) * ((e * (1 + Y1)) * (1 - Y3) - (e * (1 + Y3)) * (1 - Y1)) - X3 * X2 * (e * (1 + Y1)) * ((e * (1 + Y2)) * (1 - Y3) - (e * (1 + Y3)) * (1 - Y2)) = X1 * X2 * (e * (1 + Y3)) * ((e * (1 + Y2)) * (1 - Y1) - (e * (1 + Y1)) * (1 - Y2)) := by
  have : X3 * X1 * (e * (1 + Y2)) * ((e * (1 + Y1)) * (1 - Y3) - (e * (1 + Y3)) * (1 - Y1)) - X3 * X2 * (e * (1 + Y1)) * ((e * (1 + Y2)) * (1 - Y3) - (e * (1 + Y3)) * (1 - Y2)) - X1 * X2 * (e * (1 + Y3)) * ((e * (1 + Y2)) * (1 - Y1) - (e * (1 + Y1)) * (1 - Y2)) = 2 * e * e * (X2 * X3 * (Y3 - Y2) * (1 + Y1) + X1 * X3 * (Y1 - Y3) * (1 + Y2) + X1 * X2 * (Y1 - Y2) * (1 + Y3)) := by clear s7; grind
  rw [s7] at this
  exact sub0 (this.trans (by clear this s7; grind))
theorem t_l1 (X1 X2 X3 U1 U2 W3 : Fin n) : X1 * X2 * (U2 - U1) * (W3 * X3) = X1 * X2 * X3 * (W3 * (U2 - U1)) := by grind
theorem t_l2 (X1 X2 X3 U1 U2 U3 W1 W2 : Fin n) : X1 * X2 * X3 * (W2 * (U1 - U3) - W1 * (U2 - U3)) = X3 * X1 * (W2 * X2) * (U1 - U3) - X3 * X2 * (W1 * X1) * (U2 - U3) := by grind
theorem t_l3 (X1 X2 U1 U2 U3 : Fin n) : X1 * X2 * U3 * (U2 - U1) = X1 * X2 * (U2 - U1) * U3 := by grind
theorem t_z1 {X2 U2 U3 W2 W3 : Fin n} (s8 : W3 * (U2 - 0) = W2 * (0 - U3) - 0 * (U2 - U3)) (w2 : W2 * X2 = U2) : (U2 - 0) * (W3 * (-X2)) = (U2 - 0) * U3 := by grind
theorem t_z2 {X1 U1 U3 W1 W3 : Fin n} (s8 : W3 * (0 - U1) = 0 * (U1 - U3) - W1 * (0 - U3)) (w1 : W1 * X1 = U1) : (0 - U1) * (W3 * (-X1)) = (0 - U1) * U3 := by grind
theorem t_z3 {X1 U1 U2 W1 W2 W3 : Fin n} (s8 : W3 * (U2 - U1) = W2 * (U1 - 0) - W1 * (U2 - 0)) (w1 : W1 * X1 = U1) (w2 : W2 * X1 = U2) : X1 * ((U2 - U1) * W3) = X1 * ((U2 - U1) * 0) := by grind
theorem t_p {d p X1 X2 X3 Y1 Y2 Y3 : Fin n} : (p * d) * (X2 * X3 * (Y3 - Y2) * (1 + Y1) + X1 * X3 * (Y1 - Y3) * (1 + Y2) + X1 * X2 * (Y1 - Y2) * (1 + Y3)) =
   X2 * (X3 * p) * (Y3 * d - Y2 * d) * (1 + Y1) + X1 * (X3 * p) * (Y1 * d - Y3 * d) * (1 + Y2) + X1 * X2 * (Y1 - Y2) * (d + Y3 * d) * p := by grind
theorem four_eq : (4 : Fin n) = 2 * 2 := by grind
theorem e2 {e U : Fin n} (h : U * (1 - 1) = e * (1 + 1)) : e * 2 = 0 := by grind
theorem x_z1 {D X2 X3 Y2 : Fin n} (h : X3 * (1 + D * (0 * X2 * (-1) * Y2)) = 0 * Y2 + (-1) * X2) : X3 = - X2 := by grind
theorem x_z2 {D X1 X3 Y1 : Fin n} (h : X3 * (1 + D * (X1 * 0 * Y1 * (-1))) = X1 * (-1) + Y1 * 0) : X3 = - X1 := by grind
theorem y_m1 {D Y : Fin n} (d : (1 - Y) * (1 + Y) = 0 → 1 + Y = 0) (o : On D 0 Y) : Y = -1 := by
  have : (1 - Y) * (1 + Y) = 0 := by unfold On at o; clear d; grind
  have := d this
  clear d o; grind
theorem u3_z {e U : Fin n} (h : U * (1 - -1) = e * (1 + -1)) : U * 2 = 0 := by grind
theorem z_z {y : Fin n} : 4 * 0 * y = 0 := by grind
/-- The third place of a chord. -/
theorem chord (h : Fld n iv) {D e K : Fin n} (hD : NonSq D) (he : e * e = 1) (hK : D * K = K - 4 * e) (K0 : K ≠ 0) {X1 Y1 U1 W1 X2 Y2 U2 W2 l : Fin n}
    (a : At D e X1 Y1 U1 W1) (b : At D e X2 Y2 U2 W2) (hu : U1 ≠ U2) (hl : l * (U2 - U1) = W2 - W1) {U3 W3 : Fin n} (h3 : U3 = K * (l * l) - (K - 2 * e) - U1 - U2) (g3 : W3 = l * (U1 - U3) - W1) :
    At D e (addx iv D X1 Y1 X2 Y2) (addy iv D X1 Y1 X2 Y2) U3 W3 := by
  have e0 := e_ne h he
  have o3 := closed h hD a.on b.on
  have hx := addx_eq h hD a.on b.on
  have hy := addy_eq h hD a.on b.on
  have dp := den_pos h hD a.on b.on
  have dn := den_neg h hD a.on b.on
  generalize addx iv D X1 Y1 X2 Y2 = X3 at *
  generalize addy iv D X1 Y1 X2 Y2 = Y3 at *
  have c1 := a.curve h he hK
  have c2 := b.curve h he hK
  have du : U2 - U1 ≠ 0 := fun h0 => hu (sub0 h0).symm
  have dy : Y2 - Y1 ≠ 0 := by
    intro h0
    have hy12 : Y2 = Y1 := sub0 h0
    have u1 := a.u; have u2 := b.u
    rw [hy12] at u2
    exact hu (h.cancel a.m0 ((Fin.mul_comm _ _).trans (u1.trans (u2.symm.trans (Fin.mul_comm _ _)))))
  have s3 : U3 * ((U2 - U1) * (U2 - U1)) = U1 * U2 * (U1 + U2 + 2 * (K - 2 * e)) + (U1 + U2) - 2 * K * (W1 * W2) := by
    rw [t_s3 h3, hl, t_s3b, c1, c2, t_s3c]
  have s4 : 4 * U3 * ((Y2 - Y1) * (Y2 - Y1)) = K * ((1 - D * (Y1 * Y1)) * (1 - D * (Y2 * Y2)) * ((X1 - X2) * (X1 - X2))) := by
    rw [t_s4e, on_a a.on, on_a b.on]
    refine t_s4f he hK ?_
    rw [← a.u, ← b.u, ← a.wy h, ← b.wy h, ← t_s4d, ← s3, ← t_s4c, t_s4a, a.u, b.u, t_s4b]
  have s5 : U3 * (1 - Y3) = e * (1 + Y3) := by
    have cm := chord_mul D X1 Y1 X2 Y2 (on_a a.on) (on_a b.on)
    have four : (4 : Fin n) ≠ 0 := by
      have : (4 : Fin n) = 2 * 2 := four_eq
      rw [this]; exact h.ne_mul h.two h.two
    refine h.cancel (h.ne_mul four (h.ne_mul (h.ne_mul dy dy) dn)) ?_
    rw [← t_r1 rfl hy, ← t_r2 rfl hy] at cm
    rw [t_r3, s4, Fin.mul_assoc K, cm, t_r4, one_s hK, t_r5]
  have s6 : Y3 ≠ 1 := by
    intro h0
    rw [h0] at s5
    have : e * 2 = 0 := e2 s5
    rcases h.dom this with r | r
    · exact e0 r
    · exact h.two r
  have s8 : W3 * (U2 - U1) = W2 * (U1 - U3) - W1 * (U2 - U3) := by
    rw [t_s8 g3, hl, t_s8b]
  refine ⟨o3, s6, s5, ?_, ?_⟩
  · by_cases x1 : X1 = 0
    · obtain ⟨y1, u1, w1⟩ := a.zero h x1
      subst x1 y1 u1 w1
      have hx3 : X3 = - X2 := x_z1 hx
      refine h.cancel du ?_
      rw [hx3]; exact t_z1 s8 b.w
    by_cases x2 : X2 = 0
    · obtain ⟨y1, u1, w1⟩ := b.zero h x2
      subst x2 y1 u1 w1
      have hx3 : X3 = - X1 := x_z2 hx
      refine h.cancel du ?_
      rw [hx3]; exact t_z2 s8 a.w
    have lm := line_mul D X1 Y1 X2 Y2 a.on b.on
    have s7 : X2 * X3 * (Y3 - Y2) * (1 + Y1) + X1 * X3 * (Y1 - Y3) * (1 + Y2) + X1 * X2 * (Y1 - Y2) * (1 + Y3) = 0 := by
      rw [← hx, ← hy] at lm
      have := t_p.trans lm
      rcases h.dom this with r | r
      · exact absurd r (h.ne_mul dp dn)
      · exact r
    have m3 : 1 - Y3 ≠ 0 := fun h0 => s6 (sub0 h0).symm
    have key : X3 * X1 * U2 * (U1 - U3) - X3 * X2 * U1 * (U2 - U3) = X1 * X2 * U3 * (U2 - U1) := by
      refine h.cancel (h.ne_mul a.m0 (h.ne_mul b.m0 m3)) ?_
      rw [t_k1, t_k2, a.u, b.u, s5]
      exact t_k3 s7
    refine h.cancel (h.ne_mul (h.ne_mul x1 x2) du) ?_
    rw [t_l1, s8, t_l2, a.w, b.w, key, t_l3]
  · intro x3
    subst x3
    have y3 : Y3 = -1 := y_m1 (fun p => (h.dom p).resolve_left (fun h0 => s6 (sub0 h0).symm)) o3
    have u3 : U3 = 0 := by
      rw [y3] at s5
      have : U3 * 2 = 0 := u3_z s5
      exact (h.dom this).resolve_right h.two
    have hx12 : X1 = X2 := by
      rw [u3] at s4
      have : K * ((1 - D * (Y1 * Y1)) * (1 - D * (Y2 * Y2)) * ((X1 - X2) * (X1 - X2))) = 0 := by rw [← s4]; exact z_z
      have r := (h.dom this).resolve_left K0
      have r := (h.dom r).resolve_left (h.ne_mul (a_ne h hD _) (a_ne h hD _))
      rcases h.dom r with r | r <;> exact sub0 r
    refine h.cancel du ?_
    by_cases x1 : X1 = 0
    · obtain ⟨_, u1, w1⟩ := a.zero h x1
      obtain ⟨_, u2, w2⟩ := b.zero h (hx12 ▸ x1)
      subst u1 u2
      exact absurd rfl hu
    · refine h.cancel x1 ?_
      subst hx12 u3
      exact t_z3 s8 a.w b.w

end
end Mth
