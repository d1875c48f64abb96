/-
  A multiple by chords and tangents is what the ladder tells.
-/
import Derived.Test.YtflmkgecgijncaaDoorM9
import Derived.Test.YtflmkgecgijncaaDoorM6
namespace Mth
section
variable {n : Nat} [NeZero n]
variable (iv : Fin n → Fin n)

/-- The slope of the line through two points that are not opposite. -/
def slopeF (A b x1 y1 x2 y2 : Fin n) : Fin n := if x1 = x2 then (3 * (x1 * x1) + 2 * A * x1 + 1) * iv (2 * (b * y1)) else (y2 - y1) * iv (x2 - x1)

/-- The sum of two places. -/
def joinF (A b : Fin n) : Option (Fin n × Fin n) → Option (Fin n × Fin n) → Option (Fin n × Fin n)
  | none, q => q
  | some p, none => some p
  | some (x1, y1), some (x2, y2) =>
    if x1 = x2 ∧ y1 + y2 = 0 then none else
      some (b * (slopeF iv A b x1 y1 x2 y2 * slopeF iv A b x1 y1 x2 y2) - A - x1 - x2,
        slopeF iv A b x1 y1 x2 y2 * (x1 - (b * (slopeF iv A b x1 y1 x2 y2 * slopeF iv A b x1 y1 x2 y2) - A - x1 - x2)) - y1)

variable {iv}

theorem joinF_some (A b x1 y1 x2 y2 : Fin n) : joinF iv A b (some (x1, y1)) (some (x2, y2)) = if x1 = x2 ∧ y1 + y2 = 0 then none else
      some (b * (slopeF iv A b x1 y1 x2 y2 * slopeF iv A b x1 y1 x2 y2) - A - x1 - x2,
        slopeF iv A b x1 y1 x2 y2 * (x1 - (b * (slopeF iv A b x1 y1 x2 y2 * slopeF iv A b x1 y1 x2 y2) - A - x1 - x2)) - y1) := rfl

/-- The place is that of the point (X, Y), its second coordinate s times as great. -/
def Sits (D e s X Y : Fin n) : Option (Fin n × Fin n) → Prop
  | none => X = 0 ∧ Y = 1
  | some (U, V) => ∃ W, V = s * W ∧ At D e X Y U W

theorem ue_ne (h : Fld n iv) {e U Y : Fin n} (he : e * e = 1) (hu : U * (1 - Y) = e * (1 + Y)) : U + e ≠ 0 := by
  intro h0
  have e0 := e_ne h he
  have : e * 2 = 0 := by rw [add0 h0] at hu; clear h0 he e0; grind
  exact (h.dom this).elim e0 h.two

theorem same_y (h : Fld n iv) {D e X1 Y1 X2 Y2 U W1 W2 : Fin n} (he : e * e = 1) (a : At D e X1 Y1 U W1) (b : At D e X2 Y2 U W2) : Y1 = Y2 := by
  have k := ue_ne h he a.u
  have ua := a.u; have ub := b.u
  have : (U + e) * (Y1 - Y2) = 0 := by clear a b k he; grind
  exact sub0 ((h.dom this).resolve_left k)

theorem k_1 {b s l L K W V up : Fin n} (hK : b * (s * s) = K) (hv : V = s * W) (hL : L = s * l) (hu : L * (2 * (b * V)) = up) : l * (2 * K * W) = up := by
  rw [← hu, hL, hv, ← hK]; clear hu hL hv hK; grind
theorem k_2 {b s l L K : Fin n} (hK : b * (s * s) = K) (hL : L = s * l) : b * (L * L) = K * (l * l) := by
  rw [hL, ← hK]; clear hL hK; grind
theorem k_3 {s l L V W z : Fin n} (hL : L = s * l) (hv : V = s * W) : L * z - V = s * (l * z - W) := by rw [hL, hv]; clear hL hv; grind
theorem k_4 {s l L V1 V2 W1 W2 d : Fin n} (hL : L = s * l) (h1 : V1 = s * W1) (h2 : V2 = s * W2) (hl : L * d = V2 - V1) : s * (l * d) = s * (W2 - W1) := by
  have : s * (l * d) = L * d := by rw [hL]; clear hL h1 h2 hl; grind
  rw [this, hl, h1, h2]; clear this hL h1 h2 hl; grind
theorem k_5 {s si : Fin n} (h : s * si = 1) (L : Fin n) : L = s * (L * si) := by
  have : s * (L * si) = L * (s * si) := by clear h; grind
  rw [this, h]; clear this h; grind
theorem k_6 {V s W1 W2 : Fin n} (h1 : V = s * W1) (h : V + s * W2 = 0) : s * (W1 + W2) = 0 := by
  rw [← h, h1]; clear h h1; grind
theorem k_7 {W1 W2 X1 X2 U : Fin n} (h : W1 + W2 = 0) (w1 : W1 * X1 = U) (w2 : W2 * X2 = U) : W1 * (X1 + X2) = 0 := by grind
theorem k_8 {K W1 W2 z : Fin n} (h1 : K * (W1 * W1) = z) (h2 : K * (W2 * W2) = z) : K * ((W1 - W2) * (W1 + W2)) = 0 := by grind
theorem neg_z : (0 : Fin n) = -0 := by grind
theorem addc (a b : Fin n) : a + b = b + a := by grind
theorem k_9 {a b c : Fin n} (h : b * c = 1) : a * c * b = a := by
  have : a * c * b = a * (b * c) := by clear h; grind
  rw [this, h]; clear this h; grind

theorem join_sits (h : Fld n iv) {D e K b s : Fin n} (hD : NonSq D) (he : e * e = 1) (hK : D * K = K - 4 * e) (K0 : K ≠ 0) (hs : b * (s * s) = K) {X1 Y1 X2 Y2 : Fin n} {p q : Option (Fin n × Fin n)}
    (hp : Sits D e s X1 Y1 p) (hq : Sits D e s X2 Y2 q) : Sits D e s (addx iv D X1 Y1 X2 Y2) (addy iv D X1 Y1 X2 Y2) (joinF iv (K - 2 * e) b p q) := by
  cases p with
  | none =>
    obtain ⟨rfl, rfl⟩ := hp
    rw [(id_add h D _ _).1, (id_add h D _ _).2]; exact hq
  | some p =>
    obtain ⟨U1, V1⟩ := p
    cases q with
    | none =>
      obtain ⟨rfl, rfl⟩ := hq
      rw [(add_id h D _ _).1, (add_id h D _ _).2]; exact hp
    | some q =>
      obtain ⟨U2, V2⟩ := q
      obtain ⟨W1, v1, a⟩ := hp
      obtain ⟨W2, v2, c⟩ := hq
      have b0 : b ≠ 0 := fun h0 => K0 (by rw [← hs, h0]; grind)
      have s0 : s ≠ 0 := fun h0 => K0 (by rw [← hs, h0]; clear hD he hK v1 v2 a c b0; grind)
      have si := h.inv s s0
      rw [joinF_some]
      by_cases hu : U1 = U2
      · subst hu
        have hy := same_y h he a c
        subst hy
        by_cases hv : V1 + V2 = 0
        · rw [if_pos ⟨rfl, hv⟩]
          have hw : W1 + W2 = 0 := (h.dom (k_6 v1 (v2 ▸ hv))).resolve_left s0
          have hx : X2 = - X1 := by
            rcases h.dom (k_7 hw a.w c.w) with r | r
            · have u0 : U1 = 0 := by rw [← a.w, r]; clear hD he hK hs v1 v2 a c b0 s0 si hv hw r; grind
              have y1 : Y1 = -1 := by
                have := a.u
                rw [u0] at this
                have : e * (1 + Y1) = 0 := by rw [← this]; clear hD he hK hs v1 v2 a c b0 s0 si hv hw r this; grind
                exact add0 (((addc _ _).trans ((h.dom this).resolve_left (e_ne h he))))
              have x1 : X1 = 0 := y_neg h hD (by have := a.on; rw [y1] at this; exact this)
              have x2 : X2 = 0 := y_neg h hD (by have := c.on; rw [y1] at this; exact this)
              rw [x1, x2]
              exact neg_z
            · exact add0 ((addc _ _).trans r)
          subst hx
          exact add_neg h hD a.on
        · rw [if_neg (fun h0 => hv h0.2)]
          have hw : W1 = W2 := by
            rcases h.dom ((h.dom (k_8 (a.curve h he hK) (c.curve h he hK))).resolve_left K0) with r | r
            · exact sub0 r
            · exfalso; apply hv; rw [v1, v2, add0 r]; clear hD he hK hs v1 v2 a c b0 s0 si hv; grind
          subst hw
          have w0 : W1 ≠ 0 := fun h0 => hv (by rw [v1, v2, h0]; clear hD he hK hs v1 v2 a c b0 s0 si hv; grind)
          have hx : X1 = X2 := h.cancel w0 (a.w.trans c.w.symm)
          subst hx
          have hV : V2 = V1 := v2.trans v1.symm
          subst hV
          have d0 : 2 * (b * V2) ≠ 0 := h.ne_mul h.two (h.ne_mul b0 (by rw [v1]; exact h.ne_mul s0 w0))
          unfold slopeF
          rw [if_pos rfl]
          have hL := k_9 (a := 3 * (U1 * U1) + 2 * (K - 2 * e) * U1 + 1) (h.inv _ d0)
          generalize (3 * (U1 * U1) + 2 * (K - 2 * e) * U1 + 1) * iv (2 * (b * V2)) = L at *
          have hl := k_5 si L
          rw [k_2 hs hl]
          refine ⟨_, k_3 hl v1, ?_⟩
          exact tangent h hD he hK K0 a w0 (k_1 hs v1 hl hL) rfl rfl
      · rw [if_neg (fun h0 => hu h0.1)]
        have d0 : U2 - U1 ≠ 0 := fun h0 => hu (sub0 h0).symm
        unfold slopeF
        rw [if_neg hu]
        have hL := k_9 (a := V2 - V1) (h.inv _ d0)
        generalize (V2 - V1) * iv (U2 - U1) = L at *
        have hl := k_5 si L
        rw [k_2 hs hl]
        refine ⟨_, k_3 hl v1, ?_⟩
        exact chord h hD he hK K0 a c hu (h.cancel s0 (k_4 hl v1 v2 hL)) rfl rfl

variable (iv)
/-- The multiple by k's highest j bits. -/
def multF (A b : Fin n) (st : Option (Fin n × Fin n)) (k : Nat → Bool) : Nat → Option (Fin n × Fin n)
  | 0 => none
  | j + 1 =>
    let o := joinF iv A b (multF A b st k j) (multF A b st k j)
    if k (254 - j) then joinF iv A b o st else o
variable {iv}

theorem mult_sits (h : Fld n iv) {D e K b s x y : Fin n} (hD : NonSq D) (he : e * e = 1) (hK : D * K = K - 4 * e) (K0 : K ≠ 0) (hs : b * (s * s) = K) (hp : On D x y) {st : Option (Fin n × Fin n)} (hst : Sits D e s x y st) (k : Nat → Bool) :
    ∀ j, Sits D e s (mp iv D x y (mk k j)).1 (mp iv D x y (mk k j)).2 (multF iv (K - 2 * e) b st k j)
  | 0 => ⟨rfl, rfl⟩
  | j + 1 => by
    have ih := mult_sits h hD he hK K0 hs hp hst k j
    have d := join_sits h hD he hK K0 hs ih ih
    have e2 := mp_add h hD hp (mk k j) (mk k j)
    have d' : Sits D e s (mp iv D x y (mk k j + mk k j)).1 (mp iv D x y (mk k j + mk k j)).2 (joinF iv (K - 2 * e) b (multF iv (K - 2 * e) b st k j) (multF iv (K - 2 * e) b st k j)) := by rw [e2]; exact d
    unfold multF
    simp only
    cases hb : k (254 - j)
    · have : mk k (j + 1) = mk k j + mk k j := by show 2 * mk k j + (k (254 - j)).toNat = _; rw [hb]; show 2 * mk k j + 0 = _; omega
      rw [this]; exact d'
    · have : mk k (j + 1) = mk k j + mk k j + 1 := by show 2 * mk k j + (k (254 - j)).toNat = _; rw [hb]; show 2 * mk k j + 1 = _; omega
      rw [this]
      exact join_sits h hD he hK K0 hs d' hst
end

/-- The number that a place tells. -/
def tells : Option (Fp × Fp) → Fp
  | none => 0
  | some p => p.1

/-- The multiple of a first coordinate. -/
def mulF (u : Fp) (k : Nat → Bool) : Fp :=
  let b := u * (u * (u + 486662) + 1)
  if b = 0 then tells (multF iv 486662 1 (some (u, 0)) k 255) else tells (multF iv 486662 b (some (u, 1)) k 255)

theorem zero_mult (k : Nat → Bool) : ∀ j, multF iv 486662 1 (some (0, 0)) k j = none ∨ multF iv 486662 1 (some (0, 0)) k j = some (0, 0)
  | 0 => Or.inl rfl
  | j + 1 => by
    have n0 : joinF iv 486662 1 (none : Option (Fp × Fp)) none = none := rfl
    have n1 : joinF iv 486662 1 (none : Option (Fp × Fp)) (some (0, 0)) = some (0, 0) := rfl
    have n2 : joinF iv 486662 1 (some ((0 : Fp), (0 : Fp))) (some (0, 0)) = none := by
      rw [joinF_some, if_pos ⟨rfl, by grind⟩]
    unfold multF
    simp only
    rcases zero_mult k j with r | r <;> rw [r]
    · rw [n0]; cases k (254 - j)
      · exact Or.inl rfl
      · exact Or.inr n1
    · rw [n2]; cases k (254 - j)
      · exact Or.inl rfl
      · exact Or.inr n1

theorem big_eq : (486662 : Fp) = 4 * cA + 2 := by decide +kernel
theorem j_1 {c e D K A : Fp} (hK : K = 2 * (2 * c + 1 + e)) (hA : A = 4 * c + 2) (hc : D * (2 * c + 1 + e) = 2 * c + 1 - e) : D * K = K - 4 * e ∧ A = K - 2 * e := by
  constructor
  · have : D * K = 2 * (D * (2 * c + 1 + e)) := by rw [hK]; clear hK hA hc; grind
    rw [this, hc, hK]; clear this hK hA hc; grind
  · rw [hK, hA]; clear hK hA hc; grind
theorem j_2 {x u xi ui K b : Fp} (h1 : x * xi = 1) (h2 : u * ui = 1) (h : K * (u * xi * (u * xi)) = b) : b * (x * ui * (x * ui)) = K := by
  rw [← h]
  have : K * (u * xi * (u * xi)) * (x * ui * (x * ui)) = K * ((x * xi) * (u * ui)) * ((x * xi) * (u * ui)) := by clear h h1 h2; grind
  rw [this, h1, h2]; clear this h h1 h2; grind
theorem j_3 {x u xi ui : Fp} (h1 : x * xi = 1) (h2 : u * ui = 1) : 1 = x * ui * (u * xi) := by
  have : x * ui * (u * xi) = (x * xi) * (u * ui) := by clear h1 h2; grind
  rw [this, h1, h2]; clear this h1 h2; grind
theorem k_9' {u x xi : Fp} (h : x * xi = 1) : u * xi * x = u := by
  have : u * xi * x = u * (x * xi) := by clear h; grind
  rw [this, h]; clear this h; grind
theorem k_9'' {u x xi : Fp} (h : x * xi = 1) : u * x * xi = u := by
  have : u * x * xi = u * (x * xi) := by clear h; grind
  rw [this, h]; clear this h; grind
theorem j_4 (u A : Fp) : u * u * u + A * (u * u) + u = u * (u * (u + A) + 1) := by grind

/-- A multiple by lines through points of the curve is what the ladder tells. -/
theorem mulF_fout (u : Fp) (k : Nat → Bool) : mulF u k = fout iv cA u k := by
  unfold mulF
  simp only
  by_cases u0 : u = 0
  · subst u0
    rw [if_pos (by grind), fout_zero iv0]
    rcases zero_mult k 255 with r | r <;> rw [r] <;> rfl
  obtain ⟨e, D, x, y, hD, he, hc, hp, hy, y1⟩ := told u0
  have K0 : 2 * (2 * cA + 1 + e) ≠ 0 := fld.ne_mul fld.two (sum_ne fld he hc)
  obtain ⟨hK, hA⟩ := j_1 rfl big_eq hc
  have x0 : x ≠ 0 := by
    intro h0
    have o := hp
    rw [h0] at o
    have ym : y = -1 := y_m1 (fun p => (fld.dom p).resolve_left (fun h0 => y1 (sub0 h0).symm)) o
    rw [ym] at hy
    exact u0 ((fld.dom (u3_z hy)).resolve_right fld.two)
  have ix := fld.inv x x0
  have iu := fld.inv u u0
  have a : At D e x y u (u * iv x) := ⟨hp, y1, hy, by rw [k_9' ix], fun h0 => absurd h0 x0⟩
  have cv := a.curve fld he hK
  rw [← hA, j_4] at cv
  have b0 : u * (u * (u + 486662) + 1) ≠ 0 := by
    rw [← cv]
    have w0 : u * iv x ≠ 0 := fld.ne_mul u0 (fun h0 => by rw [h0] at ix; exact fld.two (by clear a cv iu hK hA; grind))
    exact fld.ne_mul K0 (fld.ne_mul w0 w0)
  rw [if_neg b0]
  have hs := j_2 ix iu cv
  have st : Sits D e (x * iv u) x y (some (u, 1)) := ⟨u * iv x, j_3 ix iu, a⟩
  have := mult_sits fld hD he hK K0 hs hp st k 255
  rw [← hA] at this
  rw [fout_psi fld iv0 hD he hc cA0 cA1 hp hy y1 u0]
  generalize multF iv 486662 (u * (u * (u + 486662) + 1)) (some (u, 1)) k 255 = r at *
  cases r with
  | none =>
    rw [this.2, psi_one iv0]; rfl
  | some p =>
    obtain ⟨U, V⟩ := p
    obtain ⟨W, _, a⟩ := this
    have i := fld.inv _ a.m0
    have au := a.u
    show U = psi iv e _
    unfold psi
    generalize (mp iv D x y (mk k 255)).2 = Y at *
    rw [← au]; exact (k_9'' i).symm
end Mth
