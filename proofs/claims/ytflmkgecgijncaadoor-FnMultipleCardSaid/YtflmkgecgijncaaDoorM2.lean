/-
  The group of the Edwards curve over Fin n, and the ladder's two formulas.
-/
namespace Mth
section
variable {n : Nat} [NeZero n]

/-- Fin n is a field, iv tells inverses, and 2 is not 0. -/
structure Fld (n : Nat) [NeZero n] (iv : Fin n → Fin n) : Prop where
  inv : ∀ a : Fin n, a ≠ 0 → a * iv a = 1
  two : (2 : Fin n) ≠ 0

theorem Fld.dom {iv : Fin n → Fin n} (h : Fld n iv) {a b : Fin n} (e : a * b = 0) : a = 0 ∨ b = 0 := by
  by_cases ha : a = 0
  · exact Or.inl ha
  · right; have := h.inv a ha; grind

theorem Fld.ne_mul {iv : Fin n → Fin n} (h : Fld n iv) {a b : Fin n} (ha : a ≠ 0) (hb : b ≠ 0) : a * b ≠ 0 := by
  intro e; rcases h.dom e with h | h
  · exact ha h
  · exact hb h

theorem Fld.cancel {iv : Fin n → Fin n} (h : Fld n iv) {a b c : Fin n} (ha : a ≠ 0) (e : a * b = a * c) : b = c := by
  have := h.inv a ha; grind

/-- The point lies on the Edwards curve x^2 + y^2 = 1 + D x^2 y^2. -/
def On (D x y : Fin n) : Prop := x * x + y * y = 1 + D * (x * x) * (y * y)

/-- D is no square. -/
def NonSq (D : Fin n) : Prop := ∀ r : Fin n, r * r ≠ D

theorem NonSq.mul {iv : Fin n → Fin n} (h : Fld n iv) {D : Fin n} (hD : NonSq D) {a b : Fin n} (e : a * a = D * (b * b)) : a = 0 ∧ b = 0 := by
  by_cases hb : b = 0
  · subst hb
    have : a * a = 0 := by grind
    rcases h.dom this with h1 | h1
    · exact ⟨h1, rfl⟩
    · exact ⟨h1, rfl⟩
  · exfalso
    have := h.inv b hb
    exact hD (a * iv b) (by grind)

/-- Completeness: the denominators of the sum of two points are not 0. -/
theorem complete {iv : Fin n → Fin n} (h : Fld n iv) {D : Fin n} (hD : NonSq D) {x1 y1 x2 y2 e : Fin n} (h1 : On D x1 y1) (h2 : On D x2 y2)
    (he : e * e = 1) (hd : D * (x1 * x2 * y1 * y2) = e) : False := by
  unfold On at h1 h2
  have k1 : (x1 + e * y1) * (x1 + e * y1) = D * ((x1 * y1 * (x2 + y2)) * (x1 * y1 * (x2 + y2))) := by grind
  have k2 : (x1 - e * y1) * (x1 - e * y1) = D * ((x1 * y1 * (x2 - y2)) * (x1 * y1 * (x2 - y2))) := by grind
  have he0 : e ≠ 0 := by intro h0; have h3 : (0 : Fin n) = 1 := by grind
                         exact h.two (by grind)
  have a1 := (hD.mul h k1).2
  have a2 := (hD.mul h k2).2
  have hx : 2 * (x1 * y1 * x2) = 0 := by grind
  have hx : x1 * y1 * x2 = 0 := by
    rcases h.dom hx with h3 | h3
    · exact absurd h3 h.two
    · exact h3
  exact he0 (by grind)

variable (iv : Fin n → Fin n)
/-- The sum of two points. -/
def addx (D x1 y1 x2 y2 : Fin n) : Fin n := (x1 * y2 + y1 * x2) * iv (1 + D * (x1 * x2 * y1 * y2))
def addy (D x1 y1 x2 y2 : Fin n) : Fin n := (y1 * y2 - x1 * x2) * iv (1 - D * (x1 * x2 * y1 * y2))

variable {iv}
theorem den_pos (h : Fld n iv) {D : Fin n} (hD : NonSq D) {x1 y1 x2 y2 : Fin n} (h1 : On D x1 y1) (h2 : On D x2 y2) :
    1 + D * (x1 * x2 * y1 * y2) ≠ 0 := by
  intro h0
  exact complete h hD (e := -1) h1 h2 (by grind) (by grind)
theorem den_neg (h : Fld n iv) {D : Fin n} (hD : NonSq D) {x1 y1 x2 y2 : Fin n} (h1 : On D x1 y1) (h2 : On D x2 y2) :
    1 - D * (x1 * x2 * y1 * y2) ≠ 0 := by
  intro h0
  exact complete h hD (e := 1) h1 h2 (by grind) (by grind)

theorem addx_eq (h : Fld n iv) {D : Fin n} (hD : NonSq D) {x1 y1 x2 y2 : Fin n} (h1 : On D x1 y1) (h2 : On D x2 y2) :
    addx iv D x1 y1 x2 y2 * (1 + D * (x1 * x2 * y1 * y2)) = x1 * y2 + y1 * x2 := by
  have := h.inv _ (den_pos h hD h1 h2)
  unfold addx
  grind
theorem addy_eq (h : Fld n iv) {D : Fin n} (hD : NonSq D) {x1 y1 x2 y2 : Fin n} (h1 : On D x1 y1) (h2 : On D x2 y2) :
    addy iv D x1 y1 x2 y2 * (1 - D * (x1 * x2 * y1 * y2)) = y1 * y2 - x1 * x2 := by
  have := h.inv _ (den_neg h hD h1 h2)
  unfold addy
  grind

theorem closed_core (D x1 y1 x2 y2 x3 y3 p q : Fin n) (h1 : x1 * x1 + y1 * y1 = 1 + D * (x1 * x1) * (y1 * y1)) (h2 : x2 * x2 + y2 * y2 = 1 + D * (x2 * x2) * (y2 * y2))
    (hx : x3 = (x1 * y2 + y1 * x2) * p) (hy : y3 = (y1 * y2 - x1 * x2) * q)
    (hp : (1 + D * (x1 * x2 * y1 * y2)) * p = 1) (hq : (1 - D * (x1 * x2 * y1 * y2)) * q = 1) :
    x3 * x3 + y3 * y3 = 1 + D * (x3 * x3) * (y3 * y3) := by
  have key : (x1 * y2 + y1 * x2) * (x1 * y2 + y1 * x2) * ((1 - D * (x1 * x2 * y1 * y2)) * (1 - D * (x1 * x2 * y1 * y2))) + (y1 * y2 - x1 * x2) * (y1 * y2 - x1 * x2) * ((1 + D * (x1 * x2 * y1 * y2)) * (1 + D * (x1 * x2 * y1 * y2)))
     = (1 + D * (x1 * x2 * y1 * y2)) * (1 + D * (x1 * x2 * y1 * y2)) * ((1 - D * (x1 * x2 * y1 * y2)) * (1 - D * (x1 * x2 * y1 * y2))) + D * ((x1 * y2 + y1 * x2) * (x1 * y2 + y1 * x2)) * ((y1 * y2 - x1 * x2) * (y1 * y2 - x1 * x2)) := by
    grind
  generalize x1 * y2 + y1 * x2 = a at *
  generalize y1 * y2 - x1 * x2 = b at *
  generalize 1 + D * (x1 * x2 * y1 * y2) = s at *
  generalize 1 - D * (x1 * x2 * y1 * y2) = t at *
  clear h1 h2
  subst hx hy
  have hp2 : s * s * (p * p) = 1 := by grind
  have hq2 : t * t * (q * q) = 1 := by grind
  have := congrArg (fun z => z * ((p * p) * (q * q))) key
  grind

theorem closed (h : Fld n iv) {D : Fin n} (hD : NonSq D) {x1 y1 x2 y2 : Fin n} (h1 : On D x1 y1) (h2 : On D x2 y2) :
    On D (addx iv D x1 y1 x2 y2) (addy iv D x1 y1 x2 y2) :=
  closed_core D x1 y1 x2 y2 _ _ _ _ h1 h2 rfl rfl (h.inv _ (den_pos h hD h1 h2)) (h.inv _ (den_neg h hD h1 h2))

theorem addx_comm (D x1 y1 x2 y2 : Fin n) : addx iv D x1 y1 x2 y2 = addx iv D x2 y2 x1 y1 := by
  unfold addx
  have e1 : x1 * y2 + y1 * x2 = x2 * y1 + y2 * x1 := by grind
  have e2 : x1 * x2 * y1 * y2 = x2 * x1 * y2 * y1 := by grind
  rw [e1, e2]
theorem addy_comm (D x1 y1 x2 y2 : Fin n) : addy iv D x1 y1 x2 y2 = addy iv D x2 y2 x1 y1 := by
  unfold addy
  have e1 : y1 * y2 - x1 * x2 = y2 * y1 - x2 * x1 := by grind
  have e2 : x1 * x2 * y1 * y2 = x2 * x1 * y2 * y1 := by grind
  rw [e1, e2]

theorem assoc_x_core (x1 y1 x2 y2 x3 y3 D : Fin n)
  (e1 : x1*x1+y1*y1 = 1 + D*(x1*x1)*(y1*y1))
  (e2 : x2*x2+y2*y2 = 1 + D*(x2*x2)*(y2*y2))
  (e3 : x3*x3+y3*y3 = 1 + D*(x3*x3)*(y3*y3)) :
  ((x1*y2+y1*x2)*(1-D*(x1*x2*y1*y2))*y3 + (y1*y2-x1*x2)*(1+D*(x1*x2*y1*y2))*x3)*((1-D*D*(x2*x3*y2*y3)*(x2*x3*y2*y3)) + D*x1*y1*(x2*y3+y2*x3)*(y2*y3-x2*x3))
  = ((x3*y2+y3*x2)*(1-D*(x3*x2*y3*y2))*y1 + (y3*y2-x3*x2)*(1+D*(x3*x2*y3*y2))*x1)*((1-D*D*(x2*x1*y2*y1)*(x2*x1*y2*y1)) + D*x3*y3*(x2*y1+y2*x1)*(y2*y1-x2*x1)) := by
  grind

theorem assoc_y_core (x1 y1 x2 y2 x3 y3 D : Fin n)
  (e1 : x1*x1+y1*y1 = 1 + D*(x1*x1)*(y1*y1))
  (e2 : x2*x2+y2*y2 = 1 + D*(x2*x2)*(y2*y2))
  (e3 : x3*x3+y3*y3 = 1 + D*(x3*x3)*(y3*y3)) :
  ((y1*y2-x1*x2)*(1+D*(x1*x2*y1*y2))*y3 - (x1*y2+y1*x2)*(1-D*(x1*x2*y1*y2))*x3)*((1-D*D*(x2*x3*y2*y3)*(x2*x3*y2*y3)) - D*x1*y1*(x2*y3+y2*x3)*(y2*y3-x2*x3))
  = ((y3*y2-x3*x2)*(1+D*(x3*x2*y3*y2))*y1 - (x3*y2+y3*x2)*(1-D*(x3*x2*y3*y2))*x1)*((1-D*D*(x2*x1*y2*y1)*(x2*x1*y2*y1)) - D*x3*y3*(x2*y1+y2*x1)*(y2*y1-x2*x1)) := by
  grind

theorem assoc_x (h : Fld n iv) {D : Fin n} (hD : NonSq D) {x1 y1 x2 y2 x3 y3 : Fin n} (h1 : On D x1 y1) (h2 : On D x2 y2) (h3 : On D x3 y3) :
    addx iv D (addx iv D x1 y1 x2 y2) (addy iv D x1 y1 x2 y2) x3 y3 = addx iv D x1 y1 (addx iv D x2 y2 x3 y3) (addy iv D x2 y2 x3 y3) := by
  have h12 := closed h hD h1 h2
  have h23 := closed h hD h2 h3
  have key := assoc_x_core x1 y1 x2 y2 x3 y3 D h1 h2 h3
  have a1 := addx_eq h hD h1 h2
  have a2 := addy_eq h hD h1 h2
  have a3 := addx_eq h hD h2 h3
  have a4 := addy_eq h hD h2 h3
  have d1 := den_pos h hD h1 h2
  have d2 := den_neg h hD h1 h2
  have d3 := den_pos h hD h2 h3
  have d4 := den_neg h hD h2 h3
  have a5 := addx_eq h hD h12 h3
  have a6 := addx_eq h hD h1 h23
  have d5 := den_pos h hD h12 h3
  have d6 := den_pos h hD h1 h23
  generalize addx iv D (addx iv D x1 y1 x2 y2) (addy iv D x1 y1 x2 y2) x3 y3 = L at *
  generalize addx iv D x1 y1 (addx iv D x2 y2 x3 y3) (addy iv D x2 y2 x3 y3) = R at *
  generalize addx iv D x1 y1 x2 y2 = X12 at *
  generalize addy iv D x1 y1 x2 y2 = Y12 at *
  generalize addx iv D x2 y2 x3 y3 = X23 at *
  generalize addy iv D x2 y2 x3 y3 = Y23 at *
  clear h1 h2 h3 h12 h23
  have k : ((1 + D * (x1 * x2 * y1 * y2)) * (1 - D * (x1 * x2 * y1 * y2)) * ((1 + D * (x2 * x3 * y2 * y3)) * (1 - D * (x2 * x3 * y2 * y3)))) * ((X12 * y3 + Y12 * x3) * (1 + D * (x1 * X23 * y1 * Y23)))
      = ((1 + D * (x1 * x2 * y1 * y2)) * (1 - D * (x1 * x2 * y1 * y2)) * ((1 + D * (x2 * x3 * y2 * y3)) * (1 - D * (x2 * x3 * y2 * y3)))) * ((x1 * Y23 + y1 * X23) * (1 + D * (X12 * x3 * Y12 * y3))) := by
    have b1 : x1 * y2 + y1 * x2 = X12 * (1 + D * (x1 * x2 * y1 * y2)) := a1.symm
    have b2 : y1 * y2 - x1 * x2 = Y12 * (1 - D * (x1 * x2 * y1 * y2)) := a2.symm
    have b3 : x2 * y3 + y2 * x3 = X23 * (1 + D * (x2 * x3 * y2 * y3)) := a3.symm
    have b4 : y2 * y3 - x2 * x3 = Y23 * (1 - D * (x2 * x3 * y2 * y3)) := a4.symm
    have c1 : x2 * y1 + y2 * x1 = X12 * (1 + D * (x1 * x2 * y1 * y2)) := by rw [← b1]; grind
    have c2 : y2 * y1 - x2 * x1 = Y12 * (1 - D * (x1 * x2 * y1 * y2)) := by rw [← b2]; grind
    have c3 : x3 * y2 + y3 * x2 = X23 * (1 + D * (x2 * x3 * y2 * y3)) := by rw [← b3]; grind
    have c4 : y3 * y2 - x3 * x2 = Y23 * (1 - D * (x2 * x3 * y2 * y3)) := by rw [← b4]; grind
    have e1 : x3 * x2 * y3 * y2 = x2 * x3 * y2 * y3 := by grind
    have e2 : x2 * x1 * y2 * y1 = x1 * x2 * y1 * y2 := by grind
    have e3 : 1 - D * D * (x2 * x3 * y2 * y3) * (x2 * x3 * y2 * y3) = (1 + D * (x2 * x3 * y2 * y3)) * (1 - D * (x2 * x3 * y2 * y3)) := by grind
    have e4 : 1 - D * D * (x1 * x2 * y1 * y2) * (x1 * x2 * y1 * y2) = (1 + D * (x1 * x2 * y1 * y2)) * (1 - D * (x1 * x2 * y1 * y2)) := by grind
    rw [e1, e2, e3, e4, b1, b2, b3, b4, c1, c2, c3, c4] at key
    clear b1 b2 b3 b4 c1 c2 c3 c4 e1 e2 e3 e4 a1 a2 a3 a4 a5 a6 d1 d2 d3 d4 d5 d6
    generalize 1 + D * (x1 * x2 * y1 * y2) = s at *
    generalize 1 - D * (x1 * x2 * y1 * y2) = t at *
    generalize 1 + D * (x2 * x3 * y2 * y3) = u at *
    generalize 1 - D * (x2 * x3 * y2 * y3) = v at *
    grind
  have k2 := h.cancel (h.ne_mul (h.ne_mul d1 d2) (h.ne_mul d3 d4)) k
  clear k key a1 a2 a3 a4 d1 d2 d3 d4
  refine h.cancel (h.ne_mul d5 d6) ?_
  generalize 1 + D * (x1 * X23 * y1 * Y23) = s at *
  generalize 1 + D * (X12 * x3 * Y12 * y3) = t at *
  grind

theorem assoc_y (h : Fld n iv) {D : Fin n} (hD : NonSq D) {x1 y1 x2 y2 x3 y3 : Fin n} (h1 : On D x1 y1) (h2 : On D x2 y2) (h3 : On D x3 y3) :
    addy iv D (addx iv D x1 y1 x2 y2) (addy iv D x1 y1 x2 y2) x3 y3 = addy iv D x1 y1 (addx iv D x2 y2 x3 y3) (addy iv D x2 y2 x3 y3) := by
  have h12 := closed h hD h1 h2
  have h23 := closed h hD h2 h3
  have key := assoc_y_core x1 y1 x2 y2 x3 y3 D h1 h2 h3
  have a1 := addx_eq h hD h1 h2
  have a2 := addy_eq h hD h1 h2
  have a3 := addx_eq h hD h2 h3
  have a4 := addy_eq h hD h2 h3
  have d1 := den_pos h hD h1 h2
  have d2 := den_neg h hD h1 h2
  have d3 := den_pos h hD h2 h3
  have d4 := den_neg h hD h2 h3
  have a5 := addy_eq h hD h12 h3
  have a6 := addy_eq h hD h1 h23
  have d5 := den_neg h hD h12 h3
  have d6 := den_neg h hD h1 h23
  generalize addy iv D (addx iv D x1 y1 x2 y2) (addy iv D x1 y1 x2 y2) x3 y3 = L at *
  generalize addy iv D x1 y1 (addx iv D x2 y2 x3 y3) (addy iv D x2 y2 x3 y3) = R at *
  generalize addx iv D x1 y1 x2 y2 = X12 at *
  generalize addy iv D x1 y1 x2 y2 = Y12 at *
  generalize addx iv D x2 y2 x3 y3 = X23 at *
  generalize addy iv D x2 y2 x3 y3 = Y23 at *
  clear h1 h2 h3 h12 h23
  have k : ((1 + D * (x1 * x2 * y1 * y2)) * (1 - D * (x1 * x2 * y1 * y2)) * ((1 + D * (x2 * x3 * y2 * y3)) * (1 - D * (x2 * x3 * y2 * y3)))) * ((Y12 * y3 - X12 * x3) * (1 - D * (x1 * X23 * y1 * Y23)))
      = ((1 + D * (x1 * x2 * y1 * y2)) * (1 - D * (x1 * x2 * y1 * y2)) * ((1 + D * (x2 * x3 * y2 * y3)) * (1 - D * (x2 * x3 * y2 * y3)))) * ((y1 * Y23 - x1 * X23) * (1 - D * (X12 * x3 * Y12 * y3))) := by
    have b1 : x1 * y2 + y1 * x2 = X12 * (1 + D * (x1 * x2 * y1 * y2)) := a1.symm
    have b2 : y1 * y2 - x1 * x2 = Y12 * (1 - D * (x1 * x2 * y1 * y2)) := a2.symm
    have b3 : x2 * y3 + y2 * x3 = X23 * (1 + D * (x2 * x3 * y2 * y3)) := a3.symm
    have b4 : y2 * y3 - x2 * x3 = Y23 * (1 - D * (x2 * x3 * y2 * y3)) := a4.symm
    have c1 : x2 * y1 + y2 * x1 = X12 * (1 + D * (x1 * x2 * y1 * y2)) := by rw [← b1]; grind
    have c2 : y2 * y1 - x2 * x1 = Y12 * (1 - D * (x1 * x2 * y1 * y2)) := by rw [← b2]; grind
    have c3 : x3 * y2 + y3 * x2 = X23 * (1 + D * (x2 * x3 * y2 * y3)) := by rw [← b3]; grind
    have c4 : y3 * y2 - x3 * x2 = Y23 * (1 - D * (x2 * x3 * y2 * y3)) := by rw [← b4]; grind
    have e1 : x3 * x2 * y3 * y2 = x2 * x3 * y2 * y3 := by grind
    have e2 : x2 * x1 * y2 * y1 = x1 * x2 * y1 * y2 := by grind
    have e3 : 1 - D * D * (x2 * x3 * y2 * y3) * (x2 * x3 * y2 * y3) = (1 + D * (x2 * x3 * y2 * y3)) * (1 - D * (x2 * x3 * y2 * y3)) := by grind
    have e4 : 1 - D * D * (x1 * x2 * y1 * y2) * (x1 * x2 * y1 * y2) = (1 + D * (x1 * x2 * y1 * y2)) * (1 - D * (x1 * x2 * y1 * y2)) := by grind
    rw [e1, e2, e3, e4, b1, b2, b3, b4, c1, c2, c3, c4] at key
    clear b1 b2 b3 b4 c1 c2 c3 c4 e1 e2 e3 e4 a1 a2 a3 a4 a5 a6 d1 d2 d3 d4 d5 d6
    generalize 1 + D * (x1 * x2 * y1 * y2) = s at *
    generalize 1 - D * (x1 * x2 * y1 * y2) = t at *
    generalize 1 + D * (x2 * x3 * y2 * y3) = u at *
    generalize 1 - D * (x2 * x3 * y2 * y3) = v at *
    grind
  have k2 := h.cancel (h.ne_mul (h.ne_mul d1 d2) (h.ne_mul d3 d4)) k
  clear k key a1 a2 a3 a4 d1 d2 d3 d4
  refine h.cancel (h.ne_mul d5 d6) ?_
  generalize 1 - D * (x1 * X23 * y1 * Y23) = s at *
  generalize 1 - D * (X12 * x3 * Y12 * y3) = t at *
  grind
end
end Mth
namespace Mth
section
variable {n : Nat} [NeZero n]

/-- The ratio x : z is e (1 + y) : (1 - y). -/
def Rep (e y x z : Fin n) : Prop := ∃ k : Fin n, k ≠ 0 ∧ x = k * e * (1 + y) ∧ z = k * (1 - y)

theorem Rep.mk {iv : Fin n → Fin n} (h : Fld n iv) {e y x z : Fin n} (he : e * e = 1) (h1 : x * (1 - y) = e * z * (1 + y)) (h2 : x ≠ 0 ∨ z ≠ 0) : Rep e y x z := by
  have i2 := h.inv 2 h.two
  have hx : x = (e * x + z) * iv 2 * e * (1 + y) := by grind
  have hz : z = (e * x + z) * iv 2 * (1 - y) := by grind
  refine ⟨(e * x + z) * iv 2, ?_, hx, hz⟩
  intro h0
  rw [h0] at hx hz
  rcases h2 with h2 | h2
  · exact h2 (by rw [hx]; grind)
  · exact h2 (by rw [hz]; grind)

/-- Doubling, by the ratio alone. -/
theorem dbl_rep {iv : Fin n → Fin n} (h : Fld n iv) {e c D : Fin n} (hD : NonSq D) (he : e * e = 1) (hc : D * (2 * c + 1 + e) = 2 * c + 1 - e) (c0 : c ≠ 0) (c1 : c + 1 ≠ 0)
    {xq yq x z : Fin n} (hq : On D xq yq) (hr : Rep e yq x z) :
    Rep e (addy iv D xq yq xq yq) ((x + z) * (x + z) * ((x - z) * (x - z)))
      (((x + z) * (x + z) - (x - z) * (x - z)) * ((x + z) * (x + z) + c * ((x + z) * (x + z) - (x - z) * (x - z)))) := by
  obtain ⟨k, hk, hx, hz⟩ := hr
  have a := addy_eq h hD hq hq
  have dn := den_neg h hD hq hq
  have dp := den_pos h hD hq hq
  generalize addy iv D xq yq xq yq = y5 at *
  unfold On at hq
  have i2 := h.inv 2 h.two
  have rel : ((x + z) * (x + z) * ((x - z) * (x - z))) * (1 - y5) = e * (((x + z) * (x + z) - (x - z) * (x - z)) * ((x + z) * (x + z) + c * ((x + z) * (x + z) - (x - z) * (x - z)))) * (1 + y5) := by
    -- the denominator 1 - D x^2 y^2 is cleared
    refine h.cancel dn ?_
    have hm : (1 - D * (xq * xq * yq * yq)) * (1 - y5) = 2 * (1 - yq * yq) := by grind
    have hp : (1 - D * (xq * xq * yq * yq)) * (1 + y5) = 2 * (1 - xq * xq) := by grind
    have hxz : (x + z) * (x + z) = k * k * (2 + 2 * e + (2 - 2 * e) * (yq * yq)) := by subst hx hz; grind
    have hxz' : (x - z) * (x - z) = k * k * (2 - 2 * e + (2 + 2 * e) * (yq * yq)) := by subst hx hz; grind
    have g1 : (1 - D * (xq * xq * yq * yq)) * (((x + z) * (x + z) * ((x - z) * (x - z))) * (1 - y5)) = ((x + z) * (x + z) * ((x - z) * (x - z))) * (2 * (1 - yq * yq)) := by rw [← hm]; grind
    have g2 : (1 - D * (xq * xq * yq * yq)) * (e * (((x + z) * (x + z) - (x - z) * (x - z)) * ((x + z) * (x + z) + c * ((x + z) * (x + z) - (x - z) * (x - z)))) * (1 + y5))
      = e * (((x + z) * (x + z) - (x - z) * (x - z)) * ((x + z) * (x + z) + c * ((x + z) * (x + z) - (x - z) * (x - z)))) * (2 * (1 - xq * xq)) := by rw [← hp]; grind
    rw [g1, g2, hxz, hxz']
    clear g1 g2 hxz hxz' hm hp a dn dp
    have hcc : (1 - D) * (2 * c + 1 + e) = 2 * e := by grind
    have m0 : 2 * c + 1 + e ≠ 0 := by
      intro h0
      have : (2 : Fin n) * e = 0 := by grind
      rcases h.dom this with h1 | h1
      · exact h.two h1
      · exact h.two (by grind)
    refine h.cancel m0 ?_
    have q2 : (1 - xq * xq) * (1 - D * (yq * yq)) = (1 - D) * (yq * yq) := by grind
    have q3 : (1 - D * (yq * yq)) ≠ 0 := by
      intro h0
      have : D * (yq * yq) = 1 := by grind
      by_cases hy : yq = 0
      · subst hy; have h3 : (0 : Fin n) = 1 := by grind
        exact h.two (by grind)
      · have := h.inv yq hy
        exact hD (iv yq) (by grind)
    refine h.cancel q3 ?_
    have t1 : (2 * c + 1 + e) * (1 - D * (yq * yq)) = (2 * c + 1 + e) - (2 * c + 1 - e) * (yq * yq) := by grind
    have w1 : ∀ X : Fin n, (1 - D * (yq * yq)) * ((2 * c + 1 + e) * X) = ((2 * c + 1 + e) - (2 * c + 1 - e) * (yq * yq)) * X := by intro X; rw [← t1]; grind
    have w2 : ∀ X : Fin n, (1 - D * (yq * yq)) * ((2 * c + 1 + e) * (X * (2 * (1 - xq * xq)))) = X * (2 * (2 * e * (yq * yq))) := by
      intro X
      rw [← hcc]
      have : (1 - D * (yq * yq)) * ((2 * c + 1 + e) * (X * (2 * (1 - xq * xq)))) = (2 * c + 1 + e) * X * 2 * ((1 - xq * xq) * (1 - D * (yq * yq))) := by grind
      rw [this, q2]; grind
    rw [w1, w2]
    generalize yq * yq = s at *
    clear w1 w2 t1 q2 q3 hcc m0 hx hz hq hc i2
    grind
  refine Rep.mk h he rel ?_
  by_cases h1 : (x + z) * (x + z) * ((x - z) * (x - z)) = 0
  · right
    have xz : x ≠ 0 ∨ z ≠ 0 := by
      by_cases z0 : z = 0
      · left; intro x0
        have e1 : k * (1 - yq) = 0 := by rw [← hz]; exact z0
        have e2 : k * (e * (1 + yq)) = 0 := by rw [← x0, hx]; grind
        rcases h.dom e1 with r | r
        · exact hk r
        · rcases h.dom e2 with r2 | r2
          · exact hk r2
          · exact h.two (by grind)
      · exact Or.inr z0
    have xz' : x + z = 0 ∨ x - z = 0 := by
      rcases h.dom h1 with r | r
      · rcases h.dom r with r | r <;> exact Or.inl r
      · rcases h.dom r with r | r <;> exact Or.inr r
    clear rel hx hz h1
    rcases xz' with r | r
    · have zx : z = - x := by grind
      subst zx
      have x0 : x ≠ 0 := by
        rcases xz with r | r
        · exact r
        · intro h0; exact r (by grind)
      have : ((x + -x) * (x + -x) - (x - -x) * (x - -x)) * ((x + -x) * (x + -x) + c * ((x + -x) * (x + -x) - (x - -x) * (x - -x))) = 2 * 2 * (2 * 2) * (c * (x * x * (x * x))) := by grind
      rw [this]
      exact h.ne_mul (h.ne_mul (h.ne_mul h.two h.two) (h.ne_mul h.two h.two)) (h.ne_mul c0 (h.ne_mul (h.ne_mul x0 x0) (h.ne_mul x0 x0)))
    · have zx : z = x := by grind
      subst zx
      have x0 : z ≠ 0 := by
        rcases xz with r | r <;> exact r
      have : ((z + z) * (z + z) - (z - z) * (z - z)) * ((z + z) * (z + z) + c * ((z + z) * (z + z) - (z - z) * (z - z))) = 2 * 2 * (2 * 2) * ((c + 1) * (z * z * (z * z))) := by grind
      rw [this]
      exact h.ne_mul (h.ne_mul (h.ne_mul h.two h.two) (h.ne_mul h.two h.two)) (h.ne_mul c1 (h.ne_mul (h.ne_mul x0 x0) (h.ne_mul x0 x0)))
  · exact Or.inl h1


theorem neg_on {D x y : Fin n} (h : On D x y) : On D (-x) y := by unfold On at *; grind

theorem iv_one {iv : Fin n → Fin n} (h : Fld n iv) : iv 1 = 1 := by
  have h1 : (1 : Fin n) ≠ 0 := by intro h0; exact h.two (by grind)
  have := h.inv 1 h1
  grind

theorem on_id (D : Fin n) : On D 0 1 := by unfold On; grind

theorem add_id {iv : Fin n → Fin n} (h : Fld n iv) (D x y : Fin n) : addx iv D x y 0 1 = x ∧ addy iv D x y 0 1 = y := by
  have := iv_one h
  constructor
  · unfold addx
    have e : 1 + D * (x * 0 * y * 1) = 1 := by grind
    rw [e]; grind
  · unfold addy
    have e : 1 - D * (x * 0 * y * 1) = 1 := by grind
    rw [e]; grind

theorem add_neg {iv : Fin n → Fin n} (h : Fld n iv) {D x y : Fin n} (hD : NonSq D) (hq : On D x y) : addx iv D x y (-x) y = 0 ∧ addy iv D x y (-x) y = 1 := by
  constructor
  · unfold addx; grind
  · have := addy_eq h hD hq (neg_on hq)
    have hd := den_neg h hD hq (neg_on hq)
    generalize addy iv D x y (-x) y = t at *
    unfold On at hq
    refine h.cancel hd ?_
    grind

/-- The difference of a sum and one of its parts. -/
theorem sub_back {iv : Fin n → Fin n} (h : Fld n iv) {D xq yq xp yp : Fin n} (hD : NonSq D) (hq : On D xq yq) (hp : On D xp yp) :
    addy iv D (addx iv D xq yq xp yp) (addy iv D xq yq xp yp) (-xq) yq = yp := by
  rw [addx_comm D xq yq xp yp, addy_comm D xq yq xp yp, assoc_y h hD hp hq (neg_on hq), (add_neg h hD hq).1, (add_neg h hD hq).2, (add_id h D xp yp).2]

theorem diff_core {xq yq xs ys D y5 yp : Fin n} (hq : xq * xq + yq * yq = 1 + D * (xq * xq) * (yq * yq)) (hs : xs * xs + ys * ys = 1 + D * (xs * xs) * (ys * ys))
    (h5 : y5 * (1 - D * (xq * xs * yq * ys)) = yq * ys - xq * xs) (hp : yp * (1 + D * (xq * xs * yq * ys)) = yq * ys + xq * xs) :
    (1 - D * (xq * xs * yq * ys)) * (1 + D * (xq * xs * yq * ys)) * ((1 + y5) * (1 + yp) * ((yq - ys) * (yq - ys))) = (1 - D * (xq * xs * yq * ys)) * (1 + D * (xq * xs * yq * ys)) * ((1 - y5) * (1 - yp) * ((yq + ys) * (yq + ys))) := by
  have e1 : (1 - D * (xq * xs * yq * ys)) * (1 + y5) = 1 - D * (xq * xs * yq * ys) + (yq * ys - xq * xs) := by rw [← h5]; grind
  have e2 : (1 - D * (xq * xs * yq * ys)) * (1 - y5) = 1 - D * (xq * xs * yq * ys) - (yq * ys - xq * xs) := by rw [← h5]; grind
  have e3 : (1 + D * (xq * xs * yq * ys)) * (1 + yp) = 1 + D * (xq * xs * yq * ys) + (yq * ys + xq * xs) := by rw [← hp]; grind
  have e4 : (1 + D * (xq * xs * yq * ys)) * (1 - yp) = 1 + D * (xq * xs * yq * ys) - (yq * ys + xq * xs) := by rw [← hp]; grind
  have f1 : (1 - D * (xq * xs * yq * ys)) * (1 + D * (xq * xs * yq * ys)) * ((1 + y5) * (1 + yp) * ((yq - ys) * (yq - ys))) = ((1 - D * (xq * xs * yq * ys)) * (1 + y5)) * ((1 + D * (xq * xs * yq * ys)) * (1 + yp)) * ((yq - ys) * (yq - ys)) := by grind
  have f2 : (1 - D * (xq * xs * yq * ys)) * (1 + D * (xq * xs * yq * ys)) * ((1 - y5) * (1 - yp) * ((yq + ys) * (yq + ys))) = ((1 - D * (xq * xs * yq * ys)) * (1 - y5)) * ((1 + D * (xq * xs * yq * ys)) * (1 - yp)) * ((yq + ys) * (yq + ys)) := by grind
  rw [f1, f2, e1, e2, e3, e4]
  clear e1 e2 e3 e4 f1 f2 h5 hp
  grind


theorem cross_sum {e k l yq ys x2 z2 x3 z3 : Fin n} (he : e * e = 1) (hx2 : x2 = k * e * (1 + yq)) (hz2 : z2 = k * (1 - yq)) (hx3 : x3 = l * e * (1 + ys)) (hz3 : z3 = l * (1 - ys)) :
    (x3 - z3) * (x2 + z2) + (x3 + z3) * (x2 - z2) = 4 * (k * l) * (yq + ys) := by
  have a : (x3 - z3) * (x2 + z2) + (x3 + z3) * (x2 - z2) = 2 * (x3 * x2) - 2 * (z3 * z2) := by grind
  have b : x3 * x2 = l * k * ((1 + ys) * (1 + yq)) := by
    have : x3 * x2 = (e * e) * (l * k * ((1 + ys) * (1 + yq))) := by rw [hx3, hx2]; grind
    rw [this, he]; grind
  have c : z3 * z2 = l * k * ((1 - ys) * (1 - yq)) := by rw [hz3, hz2]; grind
  rw [a, b, c]; clear a b c hx2 hz2 hx3 hz3 he; grind

theorem cross_dif {e k l yq ys x2 z2 x3 z3 : Fin n} (hx2 : x2 = k * e * (1 + yq)) (hz2 : z2 = k * (1 - yq)) (hx3 : x3 = l * e * (1 + ys)) (hz3 : z3 = l * (1 - ys)) :
    (x3 - z3) * (x2 + z2) - (x3 + z3) * (x2 - z2) = 4 * (k * l) * e * (ys - yq) := by
  have a : (x3 - z3) * (x2 + z2) - (x3 + z3) * (x2 - z2) = 2 * (x3 * z2) - 2 * (z3 * x2) := by grind
  have b : x3 * z2 = l * k * e * ((1 + ys) * (1 - yq)) := by rw [hx3, hz2]; grind
  have c : z3 * x2 = l * k * e * ((1 - ys) * (1 + yq)) := by rw [hz3, hx2]; grind
  rw [a, b, c]; clear a b c hx2 hz2 hx3 hz3; grind

theorem diff_fin {e u yp yq ys y5 m : Fin n} (he : e * e = 1) (hu : u * (1 - yp) = e * (1 + yp)) (rel : (1 + y5) * (1 + yp) * ((yq - ys) * (yq - ys)) = (1 - y5) * (1 - yp) * ((yq + ys) * (yq + ys))) :
    (1 - yp) * (m * (yq + ys) * (m * (yq + ys)) * (1 - y5)) = (1 - yp) * (e * (u * (m * e * (ys - yq) * (m * e * (ys - yq)))) * (1 + y5)) := by
  have a : (1 - yp) * (m * (yq + ys) * (m * (yq + ys)) * (1 - y5)) = m * m * ((1 - y5) * (1 - yp) * ((yq + ys) * (yq + ys))) := by grind
  have b : (1 - yp) * (e * (u * (m * e * (ys - yq) * (m * e * (ys - yq)))) * (1 + y5)) = m * m * ((e * e) * (e * (u * (1 - yp))) * (1 + y5) * ((yq - ys) * (yq - ys))) := by grind
  rw [a, b, ← rel, hu, he]
  have c : e * (e * (1 + yp)) = 1 + yp := by rw [← Fin.mul_assoc, he]; grind
  rw [c]; clear a b c rel hu he; grind

/-- The sum of two points whose difference is known, by the ratios alone. -/
theorem diff_rep {iv : Fin n → Fin n} (h : Fld n iv) {e D : Fin n} (hD : NonSq D) (he : e * e = 1) {xq yq xp yp u x2 z2 x3 z3 : Fin n} (hq : On D xq yq) (hp : On D xp yp)
    (hu : u * (1 - yp) = e * (1 + yp)) (hyp : yp ≠ 1) (hu0 : u ≠ 0) (r2 : Rep e yq x2 z2) (r3 : Rep e (addy iv D xq yq xp yp) x3 z3) :
    Rep e (addy iv D xq yq (addx iv D xq yq xp yp) (addy iv D xq yq xp yp))
      (((x3 - z3) * (x2 + z2) + (x3 + z3) * (x2 - z2)) * ((x3 - z3) * (x2 + z2) + (x3 + z3) * (x2 - z2)))
      (u * (((x3 - z3) * (x2 + z2) - (x3 + z3) * (x2 - z2)) * ((x3 - z3) * (x2 + z2) - (x3 + z3) * (x2 - z2)))) := by
  have hs := closed h hD hq hp
  have hb := sub_back h hD hq hp
  have hbe := addy_eq h hD hs (neg_on hq)
  have h5 := addy_eq h hD hq hs
  have d1 := den_neg h hD hq hs
  have d2 := den_pos h hD hq hs
  rw [hb] at hbe
  clear hb
  generalize addy iv D xq yq (addx iv D xq yq xp yp) (addy iv D xq yq xp yp) = y5 at *
  generalize addx iv D xq yq xp yp = xs at *
  generalize addy iv D xq yq xp yp = ys at *
  obtain ⟨k, hk, hx2, hz2⟩ := r2
  obtain ⟨l, hl, hx3, hz3⟩ := r3
  have hP : yp * (1 + D * (xq * xs * yq * ys)) = yq * ys + xq * xs := by
    clear hx2 hz2 hx3 hz3 h5 d1 d2 hu hs
    have e1 : 1 - D * (xs * -xq * ys * yq) = 1 + D * (xq * xs * yq * ys) := by clear hbe; grind
    rw [e1] at hbe; rw [hbe]; clear hbe e1; grind
  have rel := h.cancel (h.ne_mul d1 d2) (diff_core hq hs h5 hP)
  have E1 : (x3 - z3) * (x2 + z2) + (x3 + z3) * (x2 - z2) = 4 * (k * l) * (yq + ys) := cross_sum he hx2 hz2 hx3 hz3
  have E2 : (x3 - z3) * (x2 + z2) - (x3 + z3) * (x2 - z2) = 4 * (k * l) * e * (ys - yq) := cross_dif hx2 hz2 hx3 hz3
  rw [E1, E2]
  clear hx2 hz2 hx3 hz3 E1 E2 h5 hbe d1 d2
  have yp1 : 1 - yp ≠ 0 := by clear rel hP hq hs hp hu; intro h0; exact hyp (by grind)
  have four : (4 : Fin n) ≠ 0 := by
    clear rel hP hq hs hp hu
    intro h0
    have : (2 : Fin n) * 2 = 0 := by grind
    rcases h.dom this with r | r <;> exact h.two r
  have kl := h.ne_mul four (h.ne_mul hk hl)
  refine Rep.mk h he ?_ ?_
  · refine h.cancel yp1 ?_
    exact diff_fin he hu rel
  · by_cases hsum : yq + ys = 0
    · right
      clear rel
      have hdif : ys - yq ≠ 0 := by
        intro h0
        have q0 : yq = 0 := by
          have : 2 * yq = 0 := by grind
          rcases h.dom this with r | r
          · exact absurd r h.two
          · exact r
        have s0 : ys = 0 := by grind
        subst q0 s0
        unfold On at hq hs
        have a1 : xq * xq = 1 := by grind
        have a2 : xs * xs = 1 := by grind
        have a3 : yp = xq * xs := by grind
        have a4 : (yp - 1) * (yp + 1) = 0 := by grind
        rcases h.dom a4 with r | r
        · exact hyp (by grind)
        · have : u * 2 = 0 := by grind
          rcases h.dom this with r' | r'
          · exact hu0 r'
          · exact h.two r'
      have e0 : e ≠ 0 := by clear hP hq hs hp hu; intro h0; subst h0; exact h.two (by grind)
      have := h.ne_mul (h.ne_mul kl e0) hdif
      exact h.ne_mul hu0 (h.ne_mul this this)
    · left
      have := h.ne_mul kl hsum
      exact h.ne_mul this this

end
end Mth
