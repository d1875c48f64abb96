/-
  Lines through points of a Montgomery curve tell the sums of the Edwards curve's points.
  The tangent, and multiples by chords and tangents.
  A multiple by chords and tangents is what the ladder tells.
-/
import Derived.Test.YtflmkgecgijncaaDoorM6

namespace Mth
section
variable {n : Nat} [NeZero n]

theorem poly0 (D p y1 y2 a b m : Fin n) (hp : p = y1 * y2) (ha : a = 1 - D * (y1 * y1)) (hb : b = 1 - D * (y2 * y2)) (hm : m = (1 - y1 * y1) * (1 - y2 * y2)) :
    (b * (1 - y1 * y1) + a * (1 - y2 * y2)) * (1 - p) - 2 * (1 - D * p) * m = (1 - D) * ((y2 - y1) * (y2 - y1)) * (1 + p) := by
  subst hp ha hb hm; grind
theorem poly1 (D p y1 y2 a b : Fin n) (hp : p = y1 * y2) (ha : a = 1 - D * (y1 * y1)) (hb : b = 1 - D * (y2 * y2)) :
    (b * (1 - y1 * y1) + a * (1 - y2 * y2)) * (1 - D * p) - 2 * (a * b) * (1 - p) = - ((1 - D) * ((y2 - y1) * (y2 - y1)) * (1 + D * p)) := by
  subst hp ha hb; grind

theorem chord_mul (D x1 y1 x2 y2 : Fin n) (h1 : x1 * x1 * (1 - D * (y1 * y1)) = 1 - y1 * y1) (h2 : x2 * x2 * (1 - D * (y2 * y2)) = 1 - y2 * y2) :
    (1 - D * (y1 * y1)) * (1 - D * (y2 * y2)) * ((x1 - x2) * (x1 - x2)) * (1 - D * (x1 * x2 * y1 * y2) - y1 * y2 + x1 * x2) = (1 - D) * ((y2 - y1) * (y2 - y1)) * (1 - D * (x1 * x2 * y1 * y2) + y1 * y2 - x1 * x2) := by
  have e0 := poly0 D (y1 * y2) y1 y2 _ _ _ rfl rfl rfl rfl
  have e1 := poly1 D (y1 * y2) y1 y2 _ _ rfl rfl rfl
  have e2 : (1 - D * (y1 * y1)) * (1 - D * (y2 * y2)) * ((x1 - x2) * (x1 - x2)) = ((1 - D * (y2 * y2)) * (1 - y1 * y1) + (1 - D * (y1 * y1)) * (1 - y2 * y2)) - 2 * ((1 - D * (y1 * y1)) * (1 - D * (y2 * y2))) * (x1 * x2) := by
    rw [← h1, ← h2]; grind
  have e3 : ((1 - D * (y1 * y1)) * (1 - D * (y2 * y2))) * ((x1 * x2) * (x1 * x2)) = (1 - y1 * y1) * (1 - y2 * y2) := by rw [← h1, ← h2]; grind
  rw [e2]
  have hp : D * (x1 * x2 * y1 * y2) = D * (y1 * y2) * (x1 * x2) := by grind
  rw [hp]
  generalize (1 - D * (y2 * y2)) * (1 - y1 * y1) + (1 - D * (y1 * y1)) * (1 - y2 * y2) = S at *
  generalize (1 - D * (y1 * y1)) * (1 - D * (y2 * y2)) = ab at *
  generalize (1 - y1 * y1) * (1 - y2 * y2) = m at *
  generalize (1 - D) * ((y2 - y1) * (y2 - y1)) = d at *
  generalize x1 * x2 = q at *
  generalize y1 * y2 = p at *
  clear h1 h2 e2 hp
  grind

theorem line_mul (D x1 y1 x2 y2 : Fin n) (h1 : x1 * x1 + y1 * y1 = 1 + D * (x1 * x1) * (y1 * y1)) (h2 : x2 * x2 + y2 * y2 = 1 + D * (x2 * x2) * (y2 * y2)) :
    x2 * (x1 * y2 + y1 * x2) * ((y1 * y2 - x1 * x2) - y2 * (1 - D * (x1 * x2 * y1 * y2))) * (1 + y1)
      + x1 * (x1 * y2 + y1 * x2) * (y1 * (1 - D * (x1 * x2 * y1 * y2)) - (y1 * y2 - x1 * x2)) * (1 + y2)
      + x1 * x2 * (y1 - y2) * ((1 - D * (x1 * x2 * y1 * y2)) + (y1 * y2 - x1 * x2)) * (1 + D * (x1 * x2 * y1 * y2)) = 0 := by
  have k1 : D * (x1 * x2 * y1 * y2) * (x1 * y1) = (x1 * x1 + y1 * y1 - 1) * (x2 * y2) := by grind
  have k2 : D * (x1 * x2 * y1 * y2) * (x2 * y2) = (x2 * x2 + y2 * y2 - 1) * (x1 * y1) := by grind
  have k3 : D * (x1 * x2 * y1 * y2) * (D * (x1 * x2 * y1 * y2)) = (x2 * x2 + y2 * y2 - 1) * (x1 * x1 + y1 * y1 - 1) := by grind
  clear h1 h2
  generalize D * (x1 * x2 * y1 * y2) = t at *
  grind

variable {iv : Fin n → Fin n}

/-- (U, W) is the place of the point (X, Y), on K W^2 = U^3 + A U^2 + U. -/
structure At (D e X Y U W : Fin n) : Prop where
  on : On D X Y
  y1 : Y ≠ 1
  u : U * (1 - Y) = e * (1 + Y)
  w : W * X = U
  z : X = 0 → W = 0

theorem on_a {D X Y : Fin n} (h : On D X Y) : X * X * (1 - D * (Y * Y)) = 1 - Y * Y := by unfold On at h; grind

theorem At.m0 {D e X Y U W : Fin n} (a : At D e X Y U W) : 1 - Y ≠ 0 := fun h => a.y1 (by grind)

theorem a_ne (h : Fld n iv) {D : Fin n} (hD : NonSq D) (Y : Fin n) : 1 - D * (Y * Y) ≠ 0 := by
  intro h0
  have e : (1 : Fin n) * 1 = D * (Y * Y) := by grind
  have := (hD.mul h e).1
  exact h.two (by grind)

/-- At X = 0 there is the place (0, 0). -/
theorem At.zero (h : Fld n iv) {D e X Y U W : Fin n} (a : At D e X Y U W) (x0 : X = 0) : Y = -1 ∧ U = 0 ∧ W = 0 := by
  have o := a.on
  have u := a.u
  have hy : Y = -1 := by
    have : (1 - Y) * (1 + Y) = 0 := by unfold On at o; subst x0; grind
    rcases h.dom this with r | r
    · exact absurd r a.m0
    · grind
  refine ⟨hy, ?_, a.z x0⟩
  have := a.w
  rw [x0] at this; grind

/-- W and Y. -/
theorem At.wy (h : Fld n iv) {D e X Y U W : Fin n} (a : At D e X Y U W) : W * ((1 - Y) * (1 - Y)) = e * X * (1 - D * (Y * Y)) := by
  by_cases x0 : X = 0
  · have := a.z x0; subst x0 this; grind
  · refine h.cancel x0 ?_
    have o := on_a a.on
    have u := a.u
    have w := a.w
    have t : X * (e * X * (1 - D * (Y * Y))) = e * (1 - Y * Y) := by rw [← o]; grind
    rw [t]; clear o t
    subst w; clear a; grind

theorem At.q0 {D e K X Y U W : Fin n} (he : e * e = 1) (hK : D * K = K - 4 * e) (a : At D e X Y U W) :
    (1 - Y) * (1 - Y) * (U * U + (K - 2 * e) * U + 1) = e * K * (1 - D * (Y * Y)) := by
  have u := a.u
  have t : (1 - Y) * (1 - Y) * (U * U + (K - 2 * e) * U + 1) = (U * (1 - Y)) * (U * (1 - Y)) + (K - 2 * e) * (1 - Y) * (U * (1 - Y)) + (1 - Y) * (1 - Y) := by grind
  rw [t, u]; clear t u a
  have t : e * K * (1 - D * (Y * Y)) = e * K - e * (D * K) * (Y * Y) := by grind
  rw [t, hK]; clear t hK
  grind

/-- The curve's equation. -/
theorem At.curve (h : Fld n iv) {D e K X Y U W : Fin n} (he : e * e = 1) (hK : D * K = K - 4 * e) (a : At D e X Y U W) :
    K * (W * W) = U * U * U + (K - 2 * e) * (U * U) + U := by
  by_cases x0 : X = 0
  · obtain ⟨_, u0, w0⟩ := a.zero h x0; subst u0 w0; grind
  · have m0 := a.m0
    have q0 := a.q0 he hK
    have wy := a.wy h
    have u := a.u
    have w := a.w
    have o := on_a a.on
    refine h.cancel (h.ne_mul x0 (h.ne_mul m0 m0)) ?_
    have t1 : X * ((1 - Y) * (1 - Y)) * (K * (W * W)) = K * (W * ((1 - Y) * (1 - Y))) * (W * X) := by grind
    have t2 : X * ((1 - Y) * (1 - Y)) * (U * U * U + (K - 2 * e) * (U * U) + U) = X * U * ((1 - Y) * (1 - Y) * (U * U + (K - 2 * e) * U + 1)) := by grind
    rw [t1, t2, q0, wy, w]; grind

theorem sub0 {a b : Fin n} (h : a - b = 0) : a = b := by grind
theorem add0 {a b : Fin n} (h : a + b = 0) : a = - b := by grind
theorem t_s3 {U1 U2 U3 K e l : Fin n} (h3 : U3 = K * (l * l) - (K - 2 * e) - U1 - U2) : U3 * ((U2 - U1) * (U2 - U1)) = K * ((l * (U2 - U1)) * (l * (U2 - U1))) - ((K - 2 * e) + U1 + U2) * ((U2 - U1) * (U2 - U1)) := by
  rw [h3]; clear h3; grind
theorem t_s3b (K W1 W2 : Fin n) : K * ((W2 - W1) * (W2 - W1)) = K * (W2 * W2) + K * (W1 * W1) - 2 * K * (W1 * W2) := by grind
theorem t_s3c (U1 U2 a z : Fin n) : (U2 * U2 * U2 + a * (U2 * U2) + U2) + (U1 * U1 * U1 + a * (U1 * U1) + U1) - z - (a + U1 + U2) * ((U2 - U1) * (U2 - U1)) = U1 * U2 * (U1 + U2 + 2 * a) + (U1 + U2) - z := by grind
theorem t_s4a (U1 U2 Y1 Y2 : Fin n) : (U2 - U1) * (1 - Y1) * (1 - Y2) = (U2 * (1 - Y2)) * (1 - Y1) - (U1 * (1 - Y1)) * (1 - Y2) := by grind
theorem t_s4b (e Y1 Y2 : Fin n) : (e * (1 + Y2)) * (1 - Y1) - (e * (1 + Y1)) * (1 - Y2) = 2 * e * (Y2 - Y1) := by grind
theorem t_s4c (U1 U2 U3 Y1 Y2 : Fin n) : U3 * (((U2 - U1) * (1 - Y1) * (1 - Y2)) * ((U2 - U1) * (1 - Y1) * (1 - Y2))) = (U3 * ((U2 - U1) * (U2 - U1))) * (((1 - Y1) * (1 - Y2)) * ((1 - Y1) * (1 - Y2))) := by grind
theorem t_s4d (U1 U2 W1 W2 Y1 Y2 a K : Fin n) : (U1 * U2 * (U1 + U2 + 2 * a) + (U1 + U2) - 2 * K * (W1 * W2)) * (((1 - Y1) * (1 - Y2)) * ((1 - Y1) * (1 - Y2))) =
  (U1 * (1 - Y1)) * (U2 * (1 - Y2)) * ((U1 * (1 - Y1)) * (1 - Y2) + (U2 * (1 - Y2)) * (1 - Y1) + 2 * a * ((1 - Y1) * (1 - Y2))) + (1 - Y1) * (1 - Y2) * ((U1 * (1 - Y1)) * (1 - Y2) + (U2 * (1 - Y2)) * (1 - Y1)) - 2 * K * ((W1 * ((1 - Y1) * (1 - Y1))) * (W2 * ((1 - Y2) * (1 - Y2)))) := by grind
theorem t_s4e (D X1 X2 Y1 Y2 : Fin n) : (1 - D * (Y1 * Y1)) * (1 - D * (Y2 * Y2)) * ((X1 - X2) * (X1 - X2)) = (X1 * X1 * (1 - D * (Y1 * Y1))) * (1 - D * (Y2 * Y2)) + (X2 * X2 * (1 - D * (Y2 * Y2))) * (1 - D * (Y1 * Y1)) - 2 * ((1 - D * (Y1 * Y1)) * (1 - D * (Y2 * Y2))) * (X1 * X2) := by grind
theorem one_m (a : Fin n) : 1 * a = a := by grind
theorem one_s {K D e : Fin n} (hK : D * K = K - 4 * e) : K * (1 - D) = 4 * e := by grind
theorem t_s4f {D K e X1 X2 Y1 Y2 U3 : Fin n} (he : e * e = 1) (hK : D * K = K - 4 * e)
  (t : U3 * ((2 * e * (Y2 - Y1)) * (2 * e * (Y2 - Y1))) = (e * (1 + Y1)) * (e * (1 + Y2)) * ((e * (1 + Y1)) * (1 - Y2) + (e * (1 + Y2)) * (1 - Y1) + 2 * (K - 2 * e) * ((1 - Y1) * (1 - Y2))) + (1 - Y1) * (1 - Y2) * ((e * (1 + Y1)) * (1 - Y2) + (e * (1 + Y2)) * (1 - Y1)) - 2 * K * ((e * X1 * (1 - D * (Y1 * Y1))) * (e * X2 * (1 - D * (Y2 * Y2))))) :
  4 * U3 * ((Y2 - Y1) * (Y2 - Y1)) = K * ((1 - Y1 * Y1) * (1 - D * (Y2 * Y2)) + (1 - Y2 * Y2) * (1 - D * (Y1 * Y1)) - 2 * ((1 - D * (Y1 * Y1)) * (1 - D * (Y2 * Y2))) * (X1 * X2)) := by
  have l : U3 * ((2 * e * (Y2 - Y1)) * (2 * e * (Y2 - Y1))) = (e * e) * (4 * U3 * ((Y2 - Y1) * (Y2 - Y1))) := by clear t hK he; grind
  have r : K * ((1 - Y1 * Y1) * (1 - D * (Y2 * Y2)) + (1 - Y2 * Y2) * (1 - D * (Y1 * Y1)) - 2 * ((1 - D * (Y1 * Y1)) * (1 - D * (Y2 * Y2))) * (X1 * X2)) = (1 - Y1 * Y1) * (K - (D * K) * (Y2 * Y2)) + (1 - Y2 * Y2) * (K - (D * K) * (Y1 * Y1)) - 2 * K * ((1 - D * (Y1 * Y1)) * (1 - D * (Y2 * Y2))) * (X1 * X2) := by clear t hK he l; grind
  have m : 2 * K * ((e * X1 * (1 - D * (Y1 * Y1))) * (e * X2 * (1 - D * (Y2 * Y2)))) = (e * e) * (2 * K * ((1 - D * (Y1 * Y1)) * (1 - D * (Y2 * Y2))) * (X1 * X2)) := by clear t hK he l r; grind
  rw [r, hK]
  rw [l, m, he] at t
  generalize 2 * K * ((1 - D * (Y1 * Y1)) * (1 - D * (Y2 * Y2))) * (X1 * X2) = z at *
  clear l r m hK
  have t : 4 * U3 * ((Y2 - Y1) * (Y2 - Y1)) = _ := (one_m _).symm.trans t
  rw [t]; clear t
  grind
theorem t_r1 {d t p q Y3 : Fin n} (hd : d = 1 - t) (hy : Y3 * d = p - q) : d * (1 - Y3) = 1 - t - p + q := by
  have : d * (1 - Y3) = d - Y3 * d := by clear hy hd; grind
  rw [this, hy, hd]; clear this hy hd; grind
theorem t_r2 {d t p q Y3 : Fin n} (hd : d = 1 - t) (hy : Y3 * d = p - q) : d * (1 + Y3) = 1 - t + p - q := by
  have : d * (1 + Y3) = d + Y3 * d := by clear hy hd; grind
  rw [this, hy, hd]; clear this hy hd; grind
theorem t_r3 (y d U3 Y3 : Fin n) : 4 * (y * d) * (U3 * (1 - Y3)) = (4 * U3 * y) * (d * (1 - Y3)) := by grind
theorem t_r4 (K D y d Y3 : Fin n) : K * ((1 - D) * y * (d * (1 + Y3))) = (K * (1 - D)) * (y * (d * (1 + Y3))) := by grind
theorem t_r5 (e y d Y3 : Fin n) : (4 * e) * (y * (d * (1 + Y3))) = 4 * (y * d) * (e * (1 + Y3)) := by grind
theorem t_s8 {l U1 U2 U3 W1 W3 : Fin n} (g3 : W3 = l * (U1 - U3) - W1) : W3 * (U2 - U1) = (l * (U2 - U1)) * (U1 - U3) - W1 * (U2 - U1) := by rw [g3]; clear g3; grind
theorem t_s8b (U1 U2 U3 W1 W2 : Fin n) : (W2 - W1) * (U1 - U3) - W1 * (U2 - U1) = W2 * (U1 - U3) - W1 * (U2 - U3) := by grind
theorem t_k1 (X1 X2 X3 Y1 Y2 Y3 U1 U2 U3 : Fin n) : (1 - Y1) * ((1 - Y2) * (1 - Y3)) * (X3 * X1 * U2 * (U1 - U3) - X3 * X2 * U1 * (U2 - U3)) =
          X3 * X1 * (U2 * (1 - Y2)) * ((U1 * (1 - Y1)) * (1 - Y3) - (U3 * (1 - Y3)) * (1 - Y1)) - X3 * X2 * (U1 * (1 - Y1)) * ((U2 * (1 - Y2)) * (1 - Y3) - (U3 * (1 - Y3)) * (1 - Y2)) := by grind
theorem t_k2 (X1 X2 Y1 Y2 Y3 U1 U2 U3 : Fin n) : (1 - Y1) * ((1 - Y2) * (1 - Y3)) * (X1 * X2 * U3 * (U2 - U1)) = X1 * X2 * (U3 * (1 - Y3)) * ((U2 * (1 - Y2)) * (1 - Y1) - (U1 * (1 - Y1)) * (1 - Y2)) := by grind
theorem t_k3 {X1 X2 X3 Y1 Y2 Y3 e : Fin n} (s7 : X2 * X3 * (Y3 - Y2) * (1 + Y1) + X1 * X3 * (Y1 - Y3) * (1 + Y2) + X1 * X2 * (Y1 - Y2) * (1 + Y3) = 0) :
  X3 * X1 * (e * (1 + Y2)) * ((e * (1 + Y1)) * (1 - Y3) - (e * (1 + Y3)) * (1 - Y1)) - X3 * X2 * (e * (1 + Y1)) * ((e * (1 + Y2)) * (1 - Y3) - (e * (1 + Y3)) * (1 - Y2)) = X1 * X2 * (e * (1 + Y3)) * ((e * (1 + Y2)) * (1 - Y1) - (e * (1 + Y1)) * (1 - Y2)) := by
  have : X3 * X1 * (e * (1 + Y2)) * ((e * (1 + Y1)) * (1 - Y3) - (e * (1 + Y3)) * (1 - Y1)) - X3 * X2 * (e * (1 + Y1)) * ((e * (1 + Y2)) * (1 - Y3) - (e * (1 + Y3)) * (1 - Y2)) - X1 * X2 * (e * (1 + Y3)) * ((e * (1 + Y2)) * (1 - Y1) - (e * (1 + Y1)) * (1 - Y2)) = 2 * e * e * (X2 * X3 * (Y3 - Y2) * (1 + Y1) + X1 * X3 * (Y1 - Y3) * (1 + Y2) + X1 * X2 * (Y1 - Y2) * (1 + Y3)) := by clear s7; grind
  rw [s7] at this
  exact sub0 (this.trans (by clear this s7; grind))
theorem t_l1 (X1 X2 X3 U1 U2 W3 : Fin n) : X1 * X2 * (U2 - U1) * (W3 * X3) = X1 * X2 * X3 * (W3 * (U2 - U1)) := by grind
theorem t_l2 (X1 X2 X3 U1 U2 U3 W1 W2 : Fin n) : X1 * X2 * X3 * (W2 * (U1 - U3) - W1 * (U2 - U3)) = X3 * X1 * (W2 * X2) * (U1 - U3) - X3 * X2 * (W1 * X1) * (U2 - U3) := by grind
theorem t_l3 (X1 X2 U1 U2 U3 : Fin n) : X1 * X2 * U3 * (U2 - U1) = X1 * X2 * (U2 - U1) * U3 := by grind
theorem t_z1 {X2 U2 U3 W2 W3 : Fin n} (s8 : W3 * (U2 - 0) = W2 * (0 - U3) - 0 * (U2 - U3)) (w2 : W2 * X2 = U2) : (U2 - 0) * (W3 * (-X2)) = (U2 - 0) * U3 := by grind
theorem t_z2 {X1 U1 U3 W1 W3 : Fin n} (s8 : W3 * (0 - U1) = 0 * (U1 - U3) - W1 * (0 - U3)) (w1 : W1 * X1 = U1) : (0 - U1) * (W3 * (-X1)) = (0 - U1) * U3 := by grind
theorem t_z3 {X1 U1 U2 W1 W2 W3 : Fin n} (s8 : W3 * (U2 - U1) = W2 * (U1 - 0) - W1 * (U2 - 0)) (w1 : W1 * X1 = U1) (w2 : W2 * X1 = U2) : X1 * ((U2 - U1) * W3) = X1 * ((U2 - U1) * 0) := by grind
theorem t_p {d p X1 X2 X3 Y1 Y2 Y3 : Fin n} : (p * d) * (X2 * X3 * (Y3 - Y2) * (1 + Y1) + X1 * X3 * (Y1 - Y3) * (1 + Y2) + X1 * X2 * (Y1 - Y2) * (1 + Y3)) =
   X2 * (X3 * p) * (Y3 * d - Y2 * d) * (1 + Y1) + X1 * (X3 * p) * (Y1 * d - Y3 * d) * (1 + Y2) + X1 * X2 * (Y1 - Y2) * (d + Y3 * d) * p := by grind
theorem four_eq : (4 : Fin n) = 2 * 2 := by grind
theorem e2 {e U : Fin n} (h : U * (1 - 1) = e * (1 + 1)) : e * 2 = 0 := by grind
theorem x_z1 {D X2 X3 Y2 : Fin n} (h : X3 * (1 + D * (0 * X2 * (-1) * Y2)) = 0 * Y2 + (-1) * X2) : X3 = - X2 := by grind
theorem x_z2 {D X1 X3 Y1 : Fin n} (h : X3 * (1 + D * (X1 * 0 * Y1 * (-1))) = X1 * (-1) + Y1 * 0) : X3 = - X1 := by grind
theorem y_m1 {D Y : Fin n} (d : (1 - Y) * (1 + Y) = 0 → 1 + Y = 0) (o : On D 0 Y) : Y = -1 := by
  have : (1 - Y) * (1 + Y) = 0 := by unfold On at o; clear d; grind
  have := d this
  clear d o; grind
theorem u3_z {e U : Fin n} (h : U * (1 - -1) = e * (1 + -1)) : U * 2 = 0 := by grind
theorem z_z {y : Fin n} : 4 * 0 * y = 0 := by grind
/-- The third place of a chord. -/
theorem chord (h : Fld n iv) {D e K : Fin n} (hD : NonSq D) (he : e * e = 1) (hK : D * K = K - 4 * e) (K0 : K ≠ 0) {X1 Y1 U1 W1 X2 Y2 U2 W2 l : Fin n}
    (a : At D e X1 Y1 U1 W1) (b : At D e X2 Y2 U2 W2) (hu : U1 ≠ U2) (hl : l * (U2 - U1) = W2 - W1) {U3 W3 : Fin n} (h3 : U3 = K * (l * l) - (K - 2 * e) - U1 - U2) (g3 : W3 = l * (U1 - U3) - W1) :
    At D e (addx iv D X1 Y1 X2 Y2) (addy iv D X1 Y1 X2 Y2) U3 W3 := by
  have e0 := e_ne h he
  have o3 := closed h hD a.on b.on
  have hx := addx_eq h hD a.on b.on
  have hy := addy_eq h hD a.on b.on
  have dp := den_pos h hD a.on b.on
  have dn := den_neg h hD a.on b.on
  generalize addx iv D X1 Y1 X2 Y2 = X3 at *
  generalize addy iv D X1 Y1 X2 Y2 = Y3 at *
  have c1 := a.curve h he hK
  have c2 := b.curve h he hK
  have du : U2 - U1 ≠ 0 := fun h0 => hu (sub0 h0).symm
  have dy : Y2 - Y1 ≠ 0 := by
    intro h0
    have hy12 : Y2 = Y1 := sub0 h0
    have u1 := a.u; have u2 := b.u
    rw [hy12] at u2
    exact hu (h.cancel a.m0 ((Fin.mul_comm _ _).trans (u1.trans (u2.symm.trans (Fin.mul_comm _ _)))))
  have s3 : U3 * ((U2 - U1) * (U2 - U1)) = U1 * U2 * (U1 + U2 + 2 * (K - 2 * e)) + (U1 + U2) - 2 * K * (W1 * W2) := by
    rw [t_s3 h3, hl, t_s3b, c1, c2, t_s3c]
  have s4 : 4 * U3 * ((Y2 - Y1) * (Y2 - Y1)) = K * ((1 - D * (Y1 * Y1)) * (1 - D * (Y2 * Y2)) * ((X1 - X2) * (X1 - X2))) := by
    rw [t_s4e, on_a a.on, on_a b.on]
    refine t_s4f he hK ?_
    rw [← a.u, ← b.u, ← a.wy h, ← b.wy h, ← t_s4d, ← s3, ← t_s4c, t_s4a, a.u, b.u, t_s4b]
  have s5 : U3 * (1 - Y3) = e * (1 + Y3) := by
    have cm := chord_mul D X1 Y1 X2 Y2 (on_a a.on) (on_a b.on)
    have four : (4 : Fin n) ≠ 0 := by
      have : (4 : Fin n) = 2 * 2 := four_eq
      rw [this]; exact h.ne_mul h.two h.two
    refine h.cancel (h.ne_mul four (h.ne_mul (h.ne_mul dy dy) dn)) ?_
    rw [← t_r1 rfl hy, ← t_r2 rfl hy] at cm
    rw [t_r3, s4, Fin.mul_assoc K, cm, t_r4, one_s hK, t_r5]
  have s6 : Y3 ≠ 1 := by
    intro h0
    rw [h0] at s5
    have : e * 2 = 0 := e2 s5
    rcases h.dom this with r | r
    · exact e0 r
    · exact h.two r
  have s8 : W3 * (U2 - U1) = W2 * (U1 - U3) - W1 * (U2 - U3) := by
    rw [t_s8 g3, hl, t_s8b]
  refine ⟨o3, s6, s5, ?_, ?_⟩
  · by_cases x1 : X1 = 0
    · obtain ⟨y1, u1, w1⟩ := a.zero h x1
      subst x1 y1 u1 w1
      have hx3 : X3 = - X2 := x_z1 hx
      refine h.cancel du ?_
      rw [hx3]; exact t_z1 s8 b.w
    by_cases x2 : X2 = 0
    · obtain ⟨y1, u1, w1⟩ := b.zero h x2
      subst x2 y1 u1 w1
      have hx3 : X3 = - X1 := x_z2 hx
      refine h.cancel du ?_
      rw [hx3]; exact t_z2 s8 a.w
    have lm := line_mul D X1 Y1 X2 Y2 a.on b.on
    have s7 : X2 * X3 * (Y3 - Y2) * (1 + Y1) + X1 * X3 * (Y1 - Y3) * (1 + Y2) + X1 * X2 * (Y1 - Y2) * (1 + Y3) = 0 := by
      rw [← hx, ← hy] at lm
      have := t_p.trans lm
      rcases h.dom this with r | r
      · exact absurd r (h.ne_mul dp dn)
      · exact r
    have m3 : 1 - Y3 ≠ 0 := fun h0 => s6 (sub0 h0).symm
    have key : X3 * X1 * U2 * (U1 - U3) - X3 * X2 * U1 * (U2 - U3) = X1 * X2 * U3 * (U2 - U1) := by
      refine h.cancel (h.ne_mul a.m0 (h.ne_mul b.m0 m3)) ?_
      rw [t_k1, t_k2, a.u, b.u, s5]
      exact t_k3 s7
    refine h.cancel (h.ne_mul (h.ne_mul x1 x2) du) ?_
    rw [t_l1, s8, t_l2, a.w, b.w, key, t_l3]
  · intro x3
    subst x3
    have y3 : Y3 = -1 := y_m1 (fun p => (h.dom p).resolve_left (fun h0 => s6 (sub0 h0).symm)) o3
    have u3 : U3 = 0 := by
      rw [y3] at s5
      have : U3 * 2 = 0 := u3_z s5
      exact (h.dom this).resolve_right h.two
    have hx12 : X1 = X2 := by
      rw [u3] at s4
      have : K * ((1 - D * (Y1 * Y1)) * (1 - D * (Y2 * Y2)) * ((X1 - X2) * (X1 - X2))) = 0 := by rw [← s4]; exact z_z
      have r := (h.dom this).resolve_left K0
      have r := (h.dom r).resolve_left (h.ne_mul (a_ne h hD _) (a_ne h hD _))
      rcases h.dom r with r | r <;> exact sub0 r
    refine h.cancel du ?_
    by_cases x1 : X1 = 0
    · obtain ⟨_, u1, w1⟩ := a.zero h x1
      obtain ⟨_, u2, w2⟩ := b.zero h (hx12 ▸ x1)
      subst u1 u2
      exact absurd rfl hu
    · refine h.cancel x1 ?_
      subst hx12 u3
      exact t_z3 s8 a.w b.w

end
end Mth

namespace Mth
section
variable {n : Nat} [NeZero n]

theorem d_1 {K A l U W s : Fin n} (hl : l * (2 * K * W) = s) {U3 : Fin n} (h3 : U3 = K * (l * l) - A - U - U) : 4 * (K * (W * W)) * (K * U3) = K * (s * s) - (A + 2 * U) * (4 * (K * (W * W))) * K := by
  rw [h3, ← hl]; clear hl h3; grind
theorem d_2 {K W U A U3 : Fin n} (c : K * (W * W) = U * U * U + A * (U * U) + U)
    (t : 4 * (K * (W * W)) * (K * U3) = K * ((3 * (U * U) + 2 * A * U + 1) * (3 * (U * U) + 2 * A * U + 1)) - (A + 2 * U) * (4 * (K * (W * W))) * K) :
    K * (4 * (K * (W * W)) * U3) = K * ((U * U - 1) * (U * U - 1)) := by
  have l : K * (4 * (K * (W * W)) * U3) = 4 * (K * (W * W)) * (K * U3) := by clear c t; grind
  rw [l, t, c]; clear l t c; grind
theorem d_3 {K e Y X W D a m U3 q : Fin n} (hw : W * (m * m) = e * X * a) (he : e * e = 1) (ho : X * X * a = 1 - Y * Y) (hq : q * (m * m) = (1 + Y) * (1 + Y) - (1 - Y) * (1 - Y))
    (hK : K * (1 - D) = 4 * e) (t : 4 * (K * (W * W)) * U3 = q * q) : 4 * K * (U3 * (1 - Y * Y) * a) = 4 * K * (e * (Y * Y) * (1 - D)) := by
  have l : 4 * K * (U3 * (1 - Y * Y) * a) = (e * e) * (4 * K * (U3 * (1 - Y * Y) * a)) := by rw [he]; clear hw he ho hq hK t; grind
  have r : 4 * K * (e * (Y * Y) * (1 - D)) = 4 * e * (Y * Y) * (K * (1 - D)) := by clear hw he ho hq hK t l; grind
  rw [l, r, hK, ← ho]
  have l : e * e * (4 * K * (U3 * (X * X * a) * a)) = 4 * (K * ((e * X * a) * (e * X * a))) * U3 := by clear hw he ho hq hK t l r; grind
  rw [l, ← hw]
  have l : 4 * (K * ((W * (m * m)) * (W * (m * m)))) * U3 = (4 * (K * (W * W)) * U3) * ((m * m) * (m * m)) := by clear hw he ho hq hK t l r; grind
  rw [l, t]
  have l : q * q * ((m * m) * (m * m)) = (q * (m * m)) * (q * (m * m)) := by clear hw he ho hq hK t l r; grind
  have r : 4 * e * (Y * Y) * (4 * e) = (e * e) * (16 * (Y * Y)) := by clear hw he ho hq hK t l; grind
  rw [l, hq, r, he]; clear hw he ho hq hK t l r; grind
theorem d_4 {D X Y : Fin n} (ho : X * X * (1 - D * (Y * Y)) = 1 - Y * Y) : (1 - X * X) * (1 - D * (Y * Y)) = Y * Y * (1 - D) := by
  have : (1 - X * X) * (1 - D * (Y * Y)) = (1 - D * (Y * Y)) - X * X * (1 - D * (Y * Y)) := by clear ho; grind
  rw [this, ho]; clear this ho; grind
theorem d_5 {D X Y : Fin n} (o : On D X Y) : 1 - D * (X * X * Y * Y) - Y * Y + X * X = 2 * (1 - Y * Y) := by unfold On at o; grind
theorem d_6 {D X Y : Fin n} (o : On D X Y) : 1 - D * (X * X * Y * Y) + Y * Y - X * X = 2 * (1 - X * X) := by unfold On at o; grind
theorem d_7 {D X Y X3 : Fin n} (o : On D X Y) (hx : X3 * (1 + D * (X * X * Y * Y)) = X * Y + Y * X) : X3 * (X * X + Y * Y) = 2 * (X * Y) := by
  unfold On at o
  have : X * X + Y * Y = 1 + D * (X * X * Y * Y) := by rw [o]; clear o hx; grind
  rw [this, hx]; clear this o hx; grind
/-- R = U^4 + 2 A U^3 + 6 U^2 + 2 A U + 1, behind (1 - Y)^4. -/
theorem d_8 {K e U Y D X : Fin n} (he : e * e = 1) (hu : U * (1 - Y) = e * (1 + Y)) (hK : D * K = K - 4 * e) (ho : X * X * (1 - D * (Y * Y)) = 1 - Y * Y) :
    (U * U * U * U + 2 * (K - 2 * e) * (U * U * U) + 6 * (U * U) + 2 * (K - 2 * e) * U + 1) * ((1 - Y) * (1 - Y) * ((1 - Y) * (1 - Y))) = 4 * e * K * ((1 - D * (Y * Y)) * (X * X + Y * Y)) := by
  have l : (U * U * U * U + 2 * (K - 2 * e) * (U * U * U) + 6 * (U * U) + 2 * (K - 2 * e) * U + 1) * ((1 - Y) * (1 - Y) * ((1 - Y) * (1 - Y))) =
     (U * (1 - Y)) * (U * (1 - Y)) * (U * (1 - Y)) * (U * (1 - Y)) + 2 * (K - 2 * e) * ((U * (1 - Y)) * (U * (1 - Y)) * (U * (1 - Y))) * (1 - Y) + 6 * ((U * (1 - Y)) * (U * (1 - Y))) * ((1 - Y) * (1 - Y)) + 2 * (K - 2 * e) * (U * (1 - Y)) * ((1 - Y) * (1 - Y) * (1 - Y)) + (1 - Y) * (1 - Y) * (1 - Y) * (1 - Y) := by clear he hu hK ho; grind
  rw [l, hu]
  have r : 4 * e * K * ((1 - D * (Y * Y)) * (X * X + Y * Y)) = 4 * e * (K * (X * X * (1 - D * (Y * Y))) + (K - (D * K) * (Y * Y)) * (Y * Y)) := by clear he hu hK ho l; grind
  rw [r, ho, hK]
  clear l r hu hK ho
  grind
theorem d_9 {K A W U U3 W3 l s : Fin n} (hs : s = 3 * (U * U) + 2 * A * U + 1) (hl : l * (2 * K * W) = s) (g3 : W3 = l * (U - U3) - W) (c : K * (W * W) = U * U * U + A * (U * U) + U)
    (t : 4 * (K * (W * W)) * U3 = (U * U - 1) * (U * U - 1)) : (2 * K * W) * (4 * (K * (W * W))) * W3 = (U * U - 1) * (U * U * U * U + 2 * A * (U * U * U) + 6 * (U * U) + 2 * A * U + 1) := by
  have l : (2 * K * W) * (4 * (K * (W * W))) * W3 = (l * (2 * K * W)) * (4 * (K * (W * W)) * U - 4 * (K * (W * W)) * U3) - 2 * (K * (W * W)) * (4 * (K * (W * W))) := by rw [g3]; clear hs hl g3 c t; grind
  rw [l, hl, hs, t, c]
  clear l hs hl g3 c t
  grind
theorem d_10 {K e W U Y X X3 D R M : Fin n} (he : e * e = 1) (hM : M = (1 - Y) * (1 - Y) * ((1 - Y) * (1 - Y))) (hR : R * M = 4 * e * K * ((1 - D * (Y * Y)) * (X * X + Y * Y))) (hx : X3 * (X * X + Y * Y) = 2 * (X * Y))
    (hu : U * (1 - Y) = e * (1 + Y)) (hw : W * ((1 - Y) * (1 - Y)) = e * X * (1 - D * (Y * Y))) : M * (R * X3) = M * (2 * K * W * (U * U - 1)) := by
  have l : M * (R * X3) = (R * M) * X3 := by clear he hM hR hx hu hw; grind
  rw [l, hR]
  have l : 4 * e * K * ((1 - D * (Y * Y)) * (X * X + Y * Y)) * X3 = 4 * e * K * (1 - D * (Y * Y)) * (X3 * (X * X + Y * Y)) := by clear he hM hR hx hu hw l; grind
  rw [l, hx, hM]
  have r : (1 - Y) * (1 - Y) * ((1 - Y) * (1 - Y)) * (2 * K * W * (U * U - 1)) = 2 * K * (W * ((1 - Y) * (1 - Y))) * ((U * (1 - Y)) * (U * (1 - Y)) - (1 - Y) * (1 - Y)) := by clear he hM hR hx hu hw l; grind
  rw [r, hw, hu]
  have : (e * (1 + Y)) * (e * (1 + Y)) = (e * e) * ((1 + Y) * (1 + Y)) := by clear he hM hR hx hu hw l r; grind
  rw [this, he]
  clear he hM hR hx hu hw l r this
  grind

theorem q_1 (U Y : Fin n) : (U * U - 1) * ((1 - Y) * (1 - Y)) = (U * (1 - Y)) * (U * (1 - Y)) - (1 - Y) * (1 - Y) := by grind
theorem q_2 (e Y : Fin n) : (e * (1 + Y)) * (e * (1 + Y)) = (e * e) * ((1 + Y) * (1 + Y)) := by grind
theorem mul_sh (a b c d : Fin n) : a * b * (c * d) = (a * d) * (c * b) := by grind
theorem mul_s2 (a b c : Fin n) : 2 * a * (b * c) = 2 * (b * a * c) := by grind
theorem mul_s3 (a b c : Fin n) : 2 * a * (b * c) = 2 * b * (a * c) := by grind
theorem mul_s4 (a b c : Fin n) : 2 * (a * b * c) = 2 * a * (b * c) := by grind
theorem w_1 {A B R q W3 X3 U3 : Fin n} (k1 : A * B * W3 = q * R) (k2 : R * X3 = A * q) (t : B * U3 = q * q) : A * B * (W3 * X3) = A * B * U3 := by
  have l : A * B * (W3 * X3) = (A * B * W3) * X3 := by clear k1 k2 t; grind
  rw [l, k1]
  have l : q * R * X3 = q * (R * X3) := by clear k1 k2 t l; grind
  rw [l, k2]
  have l : A * B * U3 = A * (B * U3) := by clear k1 k2 t l; grind
  rw [l, t]; clear k1 k2 t l; grind
theorem w_2 {R q : Fin n} (k : R * 0 = q) : 0 = q := by grind
theorem w_3 (R : Fin n) : 0 * R = 0 := by grind

variable {iv : Fin n → Fin n}

/-- The third place of a tangent. -/
theorem tangent (h : Fld n iv) {D e K : Fin n} (hD : NonSq D) (he : e * e = 1) (hK : D * K = K - 4 * e) (K0 : K ≠ 0) {X Y U W l : Fin n}
    (a : At D e X Y U W) (w0 : W ≠ 0) (hl : l * (2 * K * W) = 3 * (U * U) + 2 * (K - 2 * e) * U + 1) {U3 W3 : Fin n} (h3 : U3 = K * (l * l) - (K - 2 * e) - U - U) (g3 : W3 = l * (U - U3) - W) :
    At D e (addx iv D X Y X Y) (addy iv D X Y X Y) U3 W3 := by
  have e0 := e_ne h he
  have o3 := closed h hD a.on a.on
  have hx := addx_eq h hD a.on a.on
  have hy := addy_eq h hD a.on a.on
  have dp := den_pos h hD a.on a.on
  have dn := den_neg h hD a.on a.on
  generalize addx iv D X Y X Y = X3 at *
  generalize addy iv D X Y X Y = Y3 at *
  have x0 : X ≠ 0 := fun h0 => w0 (a.z h0)
  have c := a.curve h he hK
  have four : (4 : Fin n) ≠ 0 := by rw [four_eq]; exact h.ne_mul h.two h.two
  have t : 4 * (K * (W * W)) * U3 = (U * U - 1) * (U * U - 1) := h.cancel K0 (d_2 c (d_1 hl h3))
  have q : (U * U - 1) * ((1 - Y) * (1 - Y)) = (1 + Y) * (1 + Y) - (1 - Y) * (1 - Y) := by
    have : (U * U - 1) * ((1 - Y) * (1 - Y)) = (U * (1 - Y)) * (U * (1 - Y)) - (1 - Y) * (1 - Y) := q_1 U Y
    rw [this, a.u, q_2, he, one_m]
  have t2 := h.cancel (h.ne_mul four K0) (d_3 (a.wy h) he (on_a a.on) q (one_s hK) t)
  have s5 : U3 * (1 - Y3) = e * (1 + Y3) := by
    refine h.cancel (h.ne_mul dn (a_ne h hD Y)) ?_
    have r1 := t_r1 (t := D * (X * X * Y * Y)) rfl hy
    have r2 := t_r2 (t := D * (X * X * Y * Y)) rfl hy
    rw [d_5 a.on] at r1
    rw [d_6 a.on] at r2
    have l : (1 - D * (X * X * Y * Y)) * (1 - D * (Y * Y)) * (U3 * (1 - Y3)) = ((1 - D * (X * X * Y * Y)) * (1 - Y3)) * (U3 * (1 - D * (Y * Y))) := mul_sh _ _ _ _
    have r : (1 - D * (X * X * Y * Y)) * (1 - D * (Y * Y)) * (e * (1 + Y3)) = ((1 - D * (X * X * Y * Y)) * (1 + Y3)) * (e * (1 - D * (Y * Y))) := mul_sh _ _ _ _
    rw [l, r, r1, r2]
    have l : 2 * (1 - Y * Y) * (U3 * (1 - D * (Y * Y))) = 2 * (U3 * (1 - Y * Y) * (1 - D * (Y * Y))) := mul_s2 _ _ _
    have r : 2 * (1 - X * X) * (e * (1 - D * (Y * Y))) = 2 * e * ((1 - X * X) * (1 - D * (Y * Y))) := mul_s3 _ _ _
    rw [l, r, t2, d_4 (on_a a.on)]
    exact mul_s4 _ _ _
  have s6 : Y3 ≠ 1 := by
    intro h0
    rw [h0] at s5
    exact (h.dom (e2 s5)).elim e0 h.two
  have m4 := h.ne_mul (h.ne_mul a.m0 a.m0) (h.ne_mul a.m0 a.m0)
  have k1 := d_9 rfl hl g3 c t
  have k2 := h.cancel m4 (d_10 he rfl (d_8 he a.u hK (on_a a.on)) (d_7 a.on hx) a.u (a.wy h))
  have n2 : 2 * K * W ≠ 0 := h.ne_mul (h.ne_mul h.two K0) w0
  have n4 : 4 * (K * (W * W)) ≠ 0 := h.ne_mul four (h.ne_mul K0 (h.ne_mul w0 w0))
  refine ⟨o3, s6, s5, ?_, ?_⟩
  · refine h.cancel (h.ne_mul n2 n4) ?_
    exact w_1 k1 k2 t
  · intro x3
    rw [x3] at k2
    have : U * U - 1 = 0 := (h.dom ((w_2 k2).symm)).resolve_left n2
    rw [this] at k1
    exact (h.dom (k1.trans (w_3 _))).resolve_left (h.ne_mul n2 n4)
end
end Mth

namespace Mth
section
variable {n : Nat} [NeZero n]
variable (iv : Fin n → Fin n)

/-- The slope of the line through two points that are not opposite. -/
def slopeF (A b x1 y1 x2 y2 : Fin n) : Fin n := if x1 = x2 then (3 * (x1 * x1) + 2 * A * x1 + 1) * iv (2 * (b * y1)) else (y2 - y1) * iv (x2 - x1)

/-- The sum of two places. -/
def joinF (A b : Fin n) : Option (Fin n × Fin n) → Option (Fin n × Fin n) → Option (Fin n × Fin n)
  | none, q => q
  | some p, none => some p
  | some (x1, y1), some (x2, y2) =>
    if x1 = x2 ∧ y1 + y2 = 0 then none else
      some (b * (slopeF iv A b x1 y1 x2 y2 * slopeF iv A b x1 y1 x2 y2) - A - x1 - x2,
        slopeF iv A b x1 y1 x2 y2 * (x1 - (b * (slopeF iv A b x1 y1 x2 y2 * slopeF iv A b x1 y1 x2 y2) - A - x1 - x2)) - y1)

variable {iv}

theorem joinF_some (A b x1 y1 x2 y2 : Fin n) : joinF iv A b (some (x1, y1)) (some (x2, y2)) = if x1 = x2 ∧ y1 + y2 = 0 then none else
      some (b * (slopeF iv A b x1 y1 x2 y2 * slopeF iv A b x1 y1 x2 y2) - A - x1 - x2,
        slopeF iv A b x1 y1 x2 y2 * (x1 - (b * (slopeF iv A b x1 y1 x2 y2 * slopeF iv A b x1 y1 x2 y2) - A - x1 - x2)) - y1) := rfl

/-- The place is that of the point (X, Y), its second coordinate s times as great. -/
def Sits (D e s X Y : Fin n) : Option (Fin n × Fin n) → Prop
  | none => X = 0 ∧ Y = 1
  | some (U, V) => ∃ W, V = s * W ∧ At D e X Y U W

theorem ue_ne (h : Fld n iv) {e U Y : Fin n} (he : e * e = 1) (hu : U * (1 - Y) = e * (1 + Y)) : U + e ≠ 0 := by
  intro h0
  have e0 := e_ne h he
  have : e * 2 = 0 := by rw [add0 h0] at hu; clear h0 he e0; grind
  exact (h.dom this).elim e0 h.two

theorem same_y (h : Fld n iv) {D e X1 Y1 X2 Y2 U W1 W2 : Fin n} (he : e * e = 1) (a : At D e X1 Y1 U W1) (b : At D e X2 Y2 U W2) : Y1 = Y2 := by
  have k := ue_ne h he a.u
  have ua := a.u; have ub := b.u
  have : (U + e) * (Y1 - Y2) = 0 := by clear a b k he; grind
  exact sub0 ((h.dom this).resolve_left k)

theorem k_1 {b s l L K W V up : Fin n} (hK : b * (s * s) = K) (hv : V = s * W) (hL : L = s * l) (hu : L * (2 * (b * V)) = up) : l * (2 * K * W) = up := by
  rw [← hu, hL, hv, ← hK]; clear hu hL hv hK; grind
theorem k_2 {b s l L K : Fin n} (hK : b * (s * s) = K) (hL : L = s * l) : b * (L * L) = K * (l * l) := by
  rw [hL, ← hK]; clear hL hK; grind
theorem k_3 {s l L V W z : Fin n} (hL : L = s * l) (hv : V = s * W) : L * z - V = s * (l * z - W) := by rw [hL, hv]; clear hL hv; grind
theorem k_4 {s l L V1 V2 W1 W2 d : Fin n} (hL : L = s * l) (h1 : V1 = s * W1) (h2 : V2 = s * W2) (hl : L * d = V2 - V1) : s * (l * d) = s * (W2 - W1) := by
  have : s * (l * d) = L * d := by rw [hL]; clear hL h1 h2 hl; grind
  rw [this, hl, h1, h2]; clear this hL h1 h2 hl; grind
theorem k_5 {s si : Fin n} (h : s * si = 1) (L : Fin n) : L = s * (L * si) := by
  have : s * (L * si) = L * (s * si) := by clear h; grind
  rw [this, h]; clear this h; grind
theorem k_6 {V s W1 W2 : Fin n} (h1 : V = s * W1) (h : V + s * W2 = 0) : s * (W1 + W2) = 0 := by
  rw [← h, h1]; clear h h1; grind
theorem k_7 {W1 W2 X1 X2 U : Fin n} (h : W1 + W2 = 0) (w1 : W1 * X1 = U) (w2 : W2 * X2 = U) : W1 * (X1 + X2) = 0 := by grind
theorem k_8 {K W1 W2 z : Fin n} (h1 : K * (W1 * W1) = z) (h2 : K * (W2 * W2) = z) : K * ((W1 - W2) * (W1 + W2)) = 0 := by grind
theorem neg_z : (0 : Fin n) = -0 := by grind
theorem addc (a b : Fin n) : a + b = b + a := by grind
theorem k_9 {a b c : Fin n} (h : b * c = 1) : a * c * b = a := by
  have : a * c * b = a * (b * c) := by clear h; grind
  rw [this, h]; clear this h; grind

theorem join_sits (h : Fld n iv) {D e K b s : Fin n} (hD : NonSq D) (he : e * e = 1) (hK : D * K = K - 4 * e) (K0 : K ≠ 0) (hs : b * (s * s) = K) {X1 Y1 X2 Y2 : Fin n} {p q : Option (Fin n × Fin n)}
    (hp : Sits D e s X1 Y1 p) (hq : Sits D e s X2 Y2 q) : Sits D e s (addx iv D X1 Y1 X2 Y2) (addy iv D X1 Y1 X2 Y2) (joinF iv (K - 2 * e) b p q) := by
  cases p with
  | none =>
    obtain ⟨rfl, rfl⟩ := hp
    rw [(id_add h D _ _).1, (id_add h D _ _).2]; exact hq
  | some p =>
    obtain ⟨U1, V1⟩ := p
    cases q with
    | none =>
      obtain ⟨rfl, rfl⟩ := hq
      rw [(add_id h D _ _).1, (add_id h D _ _).2]; exact hp
    | some q =>
      obtain ⟨U2, V2⟩ := q
      obtain ⟨W1, v1, a⟩ := hp
      obtain ⟨W2, v2, c⟩ := hq
      have b0 : b ≠ 0 := fun h0 => K0 (by rw [← hs, h0]; grind)
      have s0 : s ≠ 0 := fun h0 => K0 (by rw [← hs, h0]; clear hD he hK v1 v2 a c b0; grind)
      have si := h.inv s s0
      rw [joinF_some]
      by_cases hu : U1 = U2
      · subst hu
        have hy := same_y h he a c
        subst hy
        by_cases hv : V1 + V2 = 0
        · rw [if_pos ⟨rfl, hv⟩]
          have hw : W1 + W2 = 0 := (h.dom (k_6 v1 (v2 ▸ hv))).resolve_left s0
          have hx : X2 = - X1 := by
            rcases h.dom (k_7 hw a.w c.w) with r | r
            · have u0 : U1 = 0 := by rw [← a.w, r]; clear hD he hK hs v1 v2 a c b0 s0 si hv hw r; grind
              have y1 : Y1 = -1 := by
                have := a.u
                rw [u0] at this
                have : e * (1 + Y1) = 0 := by rw [← this]; clear hD he hK hs v1 v2 a c b0 s0 si hv hw r this; grind
                exact add0 (((addc _ _).trans ((h.dom this).resolve_left (e_ne h he))))
              have x1 : X1 = 0 := y_neg h hD (by have := a.on; rw [y1] at this; exact this)
              have x2 : X2 = 0 := y_neg h hD (by have := c.on; rw [y1] at this; exact this)
              rw [x1, x2]
              exact neg_z
            · exact add0 ((addc _ _).trans r)
          subst hx
          exact add_neg h hD a.on
        · rw [if_neg (fun h0 => hv h0.2)]
          have hw : W1 = W2 := by
            rcases h.dom ((h.dom (k_8 (a.curve h he hK) (c.curve h he hK))).resolve_left K0) with r | r
            · exact sub0 r
            · exfalso; apply hv; rw [v1, v2, add0 r]; clear hD he hK hs v1 v2 a c b0 s0 si hv; grind
          subst hw
          have w0 : W1 ≠ 0 := fun h0 => hv (by rw [v1, v2, h0]; clear hD he hK hs v1 v2 a c b0 s0 si hv; grind)
          have hx : X1 = X2 := h.cancel w0 (a.w.trans c.w.symm)
          subst hx
          have hV : V2 = V1 := v2.trans v1.symm
          subst hV
          have d0 : 2 * (b * V2) ≠ 0 := h.ne_mul h.two (h.ne_mul b0 (by rw [v1]; exact h.ne_mul s0 w0))
          unfold slopeF
          rw [if_pos rfl]
          have hL := k_9 (a := 3 * (U1 * U1) + 2 * (K - 2 * e) * U1 + 1) (h.inv _ d0)
          generalize (3 * (U1 * U1) + 2 * (K - 2 * e) * U1 + 1) * iv (2 * (b * V2)) = L at *
          have hl := k_5 si L
          rw [k_2 hs hl]
          refine ⟨_, k_3 hl v1, ?_⟩
          exact tangent h hD he hK K0 a w0 (k_1 hs v1 hl hL) rfl rfl
      · rw [if_neg (fun h0 => hu h0.1)]
        have d0 : U2 - U1 ≠ 0 := fun h0 => hu (sub0 h0).symm
        unfold slopeF
        rw [if_neg hu]
        have hL := k_9 (a := V2 - V1) (h.inv _ d0)
        generalize (V2 - V1) * iv (U2 - U1) = L at *
        have hl := k_5 si L
        rw [k_2 hs hl]
        refine ⟨_, k_3 hl v1, ?_⟩
        exact chord h hD he hK K0 a c hu (h.cancel s0 (k_4 hl v1 v2 hL)) rfl rfl

variable (iv)
/-- The multiple by k's highest j bits. -/
def multF (A b : Fin n) (st : Option (Fin n × Fin n)) (k : Nat → Bool) : Nat → Option (Fin n × Fin n)
  | 0 => none
  | j + 1 =>
    let o := joinF iv A b (multF A b st k j) (multF A b st k j)
    if k (254 - j) then joinF iv A b o st else o
variable {iv}

theorem mult_sits (h : Fld n iv) {D e K b s x y : Fin n} (hD : NonSq D) (he : e * e = 1) (hK : D * K = K - 4 * e) (K0 : K ≠ 0) (hs : b * (s * s) = K) (hp : On D x y) {st : Option (Fin n × Fin n)} (hst : Sits D e s x y st) (k : Nat → Bool) :
    ∀ j, Sits D e s (mp iv D x y (mk k j)).1 (mp iv D x y (mk k j)).2 (multF iv (K - 2 * e) b st k j)
  | 0 => ⟨rfl, rfl⟩
  | j + 1 => by
    have ih := mult_sits h hD he hK K0 hs hp hst k j
    have d := join_sits h hD he hK K0 hs ih ih
    have e2 := mp_add h hD hp (mk k j) (mk k j)
    have d' : Sits D e s (mp iv D x y (mk k j + mk k j)).1 (mp iv D x y (mk k j + mk k j)).2 (joinF iv (K - 2 * e) b (multF iv (K - 2 * e) b st k j) (multF iv (K - 2 * e) b st k j)) := by rw [e2]; exact d
    unfold multF
    simp only
    cases hb : k (254 - j)
    · have : mk k (j + 1) = mk k j + mk k j := by show 2 * mk k j + (k (254 - j)).toNat = _; rw [hb]; show 2 * mk k j + 0 = _; omega
      rw [this]; exact d'
    · have : mk k (j + 1) = mk k j + mk k j + 1 := by show 2 * mk k j + (k (254 - j)).toNat = _; rw [hb]; show 2 * mk k j + 1 = _; omega
      rw [this]
      exact join_sits h hD he hK K0 hs d' hst
end

/-- The number that a place tells. -/
def tells : Option (Fp × Fp) → Fp
  | none => 0
  | some p => p.1

/-- The multiple of a first coordinate. -/
def mulF (u : Fp) (k : Nat → Bool) : Fp :=
  let b := u * (u * (u + 486662) + 1)
  if b = 0 then tells (multF iv 486662 1 (some (u, 0)) k 255) else tells (multF iv 486662 b (some (u, 1)) k 255)

theorem zero_mult (k : Nat → Bool) : ∀ j, multF iv 486662 1 (some (0, 0)) k j = none ∨ multF iv 486662 1 (some (0, 0)) k j = some (0, 0)
  | 0 => Or.inl rfl
  | j + 1 => by
    have n0 : joinF iv 486662 1 (none : Option (Fp × Fp)) none = none := rfl
    have n1 : joinF iv 486662 1 (none : Option (Fp × Fp)) (some (0, 0)) = some (0, 0) := rfl
    have n2 : joinF iv 486662 1 (some ((0 : Fp), (0 : Fp))) (some (0, 0)) = none := by
      rw [joinF_some, if_pos ⟨rfl, by grind⟩]
    unfold multF
    simp only
    rcases zero_mult k j with r | r <;> rw [r]
    · rw [n0]; cases k (254 - j)
      · exact Or.inl rfl
      · exact Or.inr n1
    · rw [n2]; cases k (254 - j)
      · exact Or.inl rfl
      · exact Or.inr n1

theorem big_eq : (486662 : Fp) = 4 * cA + 2 := by decide +kernel
theorem j_1 {c e D K A : Fp} (hK : K = 2 * (2 * c + 1 + e)) (hA : A = 4 * c + 2) (hc : D * (2 * c + 1 + e) = 2 * c + 1 - e) : D * K = K - 4 * e ∧ A = K - 2 * e := by
  constructor
  · have : D * K = 2 * (D * (2 * c + 1 + e)) := by rw [hK]; clear hK hA hc; grind
    rw [this, hc, hK]; clear this hK hA hc; grind
  · rw [hK, hA]; clear hK hA hc; grind
theorem j_2 {x u xi ui K b : Fp} (h1 : x * xi = 1) (h2 : u * ui = 1) (h : K * (u * xi * (u * xi)) = b) : b * (x * ui * (x * ui)) = K := by
  rw [← h]
  have : K * (u * xi * (u * xi)) * (x * ui * (x * ui)) = K * ((x * xi) * (u * ui)) * ((x * xi) * (u * ui)) := by clear h h1 h2; grind
  rw [this, h1, h2]; clear this h h1 h2; grind
theorem j_3 {x u xi ui : Fp} (h1 : x * xi = 1) (h2 : u * ui = 1) : 1 = x * ui * (u * xi) := by
  have : x * ui * (u * xi) = (x * xi) * (u * ui) := by clear h1 h2; grind
  rw [this, h1, h2]; clear this h1 h2; grind
theorem k_9' {u x xi : Fp} (h : x * xi = 1) : u * xi * x = u := by
  have : u * xi * x = u * (x * xi) := by clear h; grind
  rw [this, h]; clear this h; grind
theorem k_9'' {u x xi : Fp} (h : x * xi = 1) : u * x * xi = u := by
  have : u * x * xi = u * (x * xi) := by clear h; grind
  rw [this, h]; clear this h; grind
theorem j_4 (u A : Fp) : u * u * u + A * (u * u) + u = u * (u * (u + A) + 1) := by grind

/-- A multiple by lines through points of the curve is what the ladder tells. -/
theorem mulF_fout (u : Fp) (k : Nat → Bool) : mulF u k = fout iv cA u k := by
  unfold mulF
  simp only
  by_cases u0 : u = 0
  · subst u0
    rw [if_pos (by grind), fout_zero iv0]
    rcases zero_mult k 255 with r | r <;> rw [r] <;> rfl
  obtain ⟨e, D, x, y, hD, he, hc, hp, hy, y1⟩ := told u0
  have K0 : 2 * (2 * cA + 1 + e) ≠ 0 := fld.ne_mul fld.two (sum_ne fld he hc)
  obtain ⟨hK, hA⟩ := j_1 rfl big_eq hc
  have x0 : x ≠ 0 := by
    intro h0
    have o := hp
    rw [h0] at o
    have ym : y = -1 := y_m1 (fun p => (fld.dom p).resolve_left (fun h0 => y1 (sub0 h0).symm)) o
    rw [ym] at hy
    exact u0 ((fld.dom (u3_z hy)).resolve_right fld.two)
  have ix := fld.inv x x0
  have iu := fld.inv u u0
  have a : At D e x y u (u * iv x) := ⟨hp, y1, hy, by rw [k_9' ix], fun h0 => absurd h0 x0⟩
  have cv := a.curve fld he hK
  rw [← hA, j_4] at cv
  have b0 : u * (u * (u + 486662) + 1) ≠ 0 := by
    rw [← cv]
    have w0 : u * iv x ≠ 0 := fld.ne_mul u0 (fun h0 => by rw [h0] at ix; exact fld.two (by clear a cv iu hK hA; grind))
    exact fld.ne_mul K0 (fld.ne_mul w0 w0)
  rw [if_neg b0]
  have hs := j_2 ix iu cv
  have st : Sits D e (x * iv u) x y (some (u, 1)) := ⟨u * iv x, j_3 ix iu, a⟩
  have := mult_sits fld hD he hK K0 hs hp st k 255
  rw [← hA] at this
  rw [fout_psi fld iv0 hD he hc cA0 cA1 hp hy y1 u0]
  generalize multF iv 486662 (u * (u * (u + 486662) + 1)) (some (u, 1)) k 255 = r at *
  cases r with
  | none =>
    rw [this.2, psi_one iv0]; rfl
  | some p =>
    obtain ⟨U, V⟩ := p
    obtain ⟨W, _, a⟩ := this
    have i := fld.inv _ a.m0
    have au := a.u
    show U = psi iv e _
    unfold psi
    generalize (mp iv D x y (mk k 255)).2 = Y at *
    rw [← au]; exact (k_9'' i).symm
end Mth
