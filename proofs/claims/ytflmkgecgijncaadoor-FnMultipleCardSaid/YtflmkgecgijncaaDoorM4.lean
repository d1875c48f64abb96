/-
  The field of P numbers; each first coordinate has its curve; orders of points.
-/
import Derived.Test.YtflmkgecgijncaaDoorM1
import Derived.Test.YtflmkgecgijncaaDoorM3
namespace Mth
section
variable {n : Nat} [NeZero n] {iv : Fin n → Fin n}

theorem e_ne (h : Fld n iv) {e : Fin n} (he : e * e = 1) : e ≠ 0 := by intro h0; rw [h0] at he; exact h.two (by grind)

theorem sum_ne (h : Fld n iv) {e c D : Fin n} (he : e * e = 1) (hc : D * (2 * c + 1 + e) = 2 * c + 1 - e) : 2 * c + 1 + e ≠ 0 := by
  intro h0
  rw [h0] at hc
  have : 2 * e = 0 := by grind
  rcases h.dom this with r | r
  · exact h.two r
  · exact e_ne h he r

/-- A number on the line is the first coordinate of a point. -/
theorem lift (h : Fld n iv) {e c D : Fin n} (hD : NonSq D) (he : e * e = 1) (hc : D * (2 * c + 1 + e) = 2 * c + 1 - e) {u x t : Fin n}
    (ht : t = u * u + (4 * c + 2) * u + 1) (t0 : t ≠ 0) (hx : x * x * t = 2 * u * (2 * c + 1 + e)) :
    ∃ y, On D x y ∧ u * (1 - y) = e * (1 + y) ∧ y ≠ 1 := by
  have e0 := e_ne h he
  have s0 := sum_ne h he hc
  have ue : u + e ≠ 0 := by
    intro h0
    have hu : u = -e := by grind
    rw [ht, hu] at hx
    have h1 : 2 * (2 * c + 1 + e) * (x * x * D) = 2 * (2 * c + 1 + e) * 1 := by
      have : 2 * (2 * c + 1 + e) * (x * x * D) = 2 * (x * x) * (D * (2 * c + 1 + e)) := by clear hx hc he ht; grind
      rw [this, hc]
      have h3 : 2 * (x * x) * (2 * c + 1 - e) = -(e * (x * x * (-e * -e + (4 * c + 2) * -e + 1))) := by clear hx hc ht this; grind
      rw [h3, hx]; clear hx hc ht this h3; grind
    have h2 := h.cancel (h.ne_mul h.two s0) h1
    have x0 : x ≠ 0 := by intro h3; rw [h3] at h2; exact h.two (by clear hx hc ht; grind)
    have := h.inv x x0
    exact hD (iv x) (by clear hx hc ht h1; grind)
  have i := h.inv _ ue
  refine ⟨(u - e) * iv (u + e), ?_, ?_, ?_⟩
  · obtain ⟨y, hy⟩ : ∃ y, (u - e) * iv (u + e) = y := ⟨_, rfl⟩
    rw [hy]
    have hy' : y * (u + e) = u - e := by rw [← hy]; clear hx hc ht hy; grind
    clear i hy
    unfold On
    refine h.cancel (h.ne_mul t0 (h.ne_mul ue ue)) ?_
    have a1 : t * ((u + e) * (u + e)) * (x * x + y * y) = (x * x * t) * ((u + e) * (u + e)) + t * (y * (u + e) * (y * (u + e))) := by clear hx hc ht hy'; grind
    have a2 : t * ((u + e) * (u + e)) * (1 + D * (x * x) * (y * y)) = t * ((u + e) * (u + e)) + D * (x * x * t) * (y * (u + e) * (y * (u + e))) := by clear hx hc ht hy' a1; grind
    have a3 : D * (2 * u * (2 * c + 1 + e)) = 2 * u * (2 * c + 1 - e) := by rw [← hc]; clear hx hc ht hy' a1 a2; grind
    rw [a1, a2, hx, hy', a3, ht]
    clear hx hc ht hy' a1 a2 a3
    grind
  · clear hx hc ht; grind
  · intro h1
    have h2 : u - e = u + e := by clear hx hc ht; grind
    have h3 : 2 * e = 0 := by clear hx hc ht h1 i; grind
    rcases h.dom h3 with r | r
    · exact h.two r
    · exact e0 r

theorem psi_zero (h : Fld n iv) {e y : Fin n} (he : e * e = 1) (hz : psi iv e y = 0) : y = 1 ∨ y = -1 := by
  unfold psi at hz
  by_cases h1 : 1 - y = 0
  · left; grind
  · right
    have i := h.inv _ h1
    have i0 : iv (1 - y) ≠ 0 := by intro h2; rw [h2] at i; exact h.two (by clear hz; grind)
    rcases h.dom hz with r | r
    · rcases h.dom r with r | r
      · exact absurd r (e_ne h he)
      · clear hz i; grind
    · exact absurd r i0

theorem psi_one (i0 : iv 0 = 0) (e : Fin n) : psi iv e 1 = 0 := by
  unfold psi; rw [show (1 : Fin n) - 1 = 0 by grind, i0]; grind
theorem psi_neg (e : Fin n) : psi iv e (-1) = 0 := by
  unfold psi; rw [show (1 : Fin n) + -1 = 0 by grind]; grind

theorem mp_neg (h : Fld n iv) (D : Fin n) : ∀ k, (mp iv D 0 (-1) k).1 = 0 ∧ ((mp iv D 0 (-1) k).2 = 1 ∨ (mp iv D 0 (-1) k).2 = -1)
  | 0 => ⟨rfl, Or.inl rfl⟩
  | k + 1 => by
    obtain ⟨h1, h2⟩ := mp_neg h D k
    have i := iv_one h
    unfold mp
    rw [h1]
    unfold addx addy
    generalize (mp iv D 0 (-1) k).2 = t at *
    have e1 : 1 + D * (0 * 0 * t * -1) = 1 := by grind
    have e2 : 1 - D * (0 * 0 * t * -1) = 1 := by grind
    simp only
    rw [e1, e2, i]
    refine ⟨by grind, ?_⟩
    rcases h2 with r | r <;> rw [r]
    · right; grind
    · left; grind

/-- The ladder at what tells a point tells its multiple. -/
theorem fout_at (h : Fld n iv) (i0 : iv 0 = 0) {e c D : Fin n} (hD : NonSq D) (he : e * e = 1) (hc : D * (2 * c + 1 + e) = 2 * c + 1 - e) (c0 : c ≠ 0) (c1 : c + 1 ≠ 0)
    {x y : Fin n} (hp : On D x y) (k : Nat → Bool) : fout iv c (psi iv e y) k = psi iv e (mp iv D x y (mk k 255)).2 := by
  by_cases h1 : y = 1
  · subst h1
    have := y_one h hD hp
    subst this
    rw [psi_one i0, fout_zero i0, mp_id h, psi_one i0]
  by_cases h2 : y = -1
  · subst h2
    have := y_neg h hD hp
    subst this
    rw [psi_neg, fout_zero i0]
    rcases (mp_neg h D (mk k 255)).2 with r | r <;> rw [r]
    · rw [psi_one i0]
    · rw [psi_neg]
  have d0 : 1 - y ≠ 0 := by intro h3; exact h1 (by grind)
  have i := h.inv _ d0
  refine fout_psi h i0 hD he hc c0 c1 hp ?_ h1 ?_ k
  · unfold psi; clear hc hp; grind
  · intro h3
    rcases psi_zero h he h3 with r | r
    · exact h1 r
    · exact h2 r

/-- Each number is told of a point of one of the curves. -/
def Told (c u e D x y : Fin n) : Prop := NonSq D ∧ e * e = 1 ∧ D * (2 * c + 1 + e) = 2 * c + 1 - e ∧ On D x y ∧ u * (1 - y) = e * (1 + y) ∧ y ≠ 1

theorem fout_turns (h : Fld n iv) (i0 : iv 0 = 0) {c : Fin n} (c0 : c ≠ 0) (c1 : c + 1 ≠ 0) {u : Fin n} (hu : u ≠ 0 → ∃ e D x y, Told c u e D x y) (a b : Nat → Bool) :
    fout iv c (fout iv c u b) a = fout iv c (fout iv c u a) b := by
  by_cases u0 : u = 0
  · subst u0; rw [fout_zero i0, fout_zero i0, fout_zero i0]
  obtain ⟨e, D, x, y, hD, he, hc, hp, hy, y1⟩ := hu u0
  rw [fout_psi h i0 hD he hc c0 c1 hp hy y1 u0, fout_psi h i0 hD he hc c0 c1 hp hy y1 u0, fout_at h i0 hD he hc c0 c1 (on_mp h hD hp _), fout_at h i0 hD he hc c0 c1 (on_mp h hD hp _),
    mp_mul h hD hp, mp_mul h hD hp, Nat.mul_comm]

theorem mp_gcd (h : Fld n iv) {D x y : Fin n} (hD : NonSq D) (hp : On D x y) : ∀ (k a b : Nat), a + b ≤ k → mp iv D x y a = (0, 1) → mp iv D x y b = (0, 1) → mp iv D x y (Nat.gcd a b) = (0, 1)
  | 0, a, b => by intro hk ha hb; have : a = 0 := by omega
                  have : b = 0 := by omega
                  subst a b; exact rfl
  | k + 1, a, b => by
    intro hk ha hb
    have low : ∀ p q : Nat, mp iv D x y (p + q) = (0, 1) → mp iv D x y q = (0, 1) → mp iv D x y p = (0, 1) := by
      intro p q h1 h2
      rw [mp_add h hD hp p q, h2, (add_id h D _ _).1, (add_id h D _ _).2] at h1; exact h1
    rcases Nat.eq_zero_or_pos a with r | r
    · subst r; rw [Nat.gcd_zero_left]; exact hb
    rcases Nat.eq_zero_or_pos b with s | s
    · subst s; rw [Nat.gcd_zero_right]; exact ha
    rcases Nat.le_total a b with t | t
    · have := mp_gcd h hD hp k a (b - a) (by omega) ha (low (b - a) a (by rw [Nat.sub_add_cancel t]; exact hb) ha)
      rwa [Nat.gcd_sub_self_right t] at this
    · have := mp_gcd h hD hp k (a - b) b (by omega) (low (a - b) b (by rw [Nat.sub_add_cancel t]; exact ha) hb) hb
      rwa [Nat.gcd_sub_self_left t] at this

/-- No multiple of a point of prime order q by a number that q does not divide tells 0. -/
theorem fout_ne (h : Fld n iv) (i0 : iv 0 = 0) {e c D : Fin n} (hD : NonSq D) (he : e * e = 1) (hc : D * (2 * c + 1 + e) = 2 * c + 1 - e) (c0 : c ≠ 0) (c1 : c + 1 ≠ 0)
    {x y u : Fin n} (hp : On D x y) (hu : u * (1 - y) = e * (1 + y)) (hy : y ≠ 1) (hu0 : u ≠ 0) {q : Nat} (hq : Pr q) (h2q : ¬ q ∣ 2) (ho : mp iv D x y q = (0, 1))
    {k : Nat → Bool} (hk : ¬ q ∣ mk k 255) : fout iv c u k ≠ 0 := by
  rw [fout_psi h i0 hD he hc c0 c1 hp hu hy hu0]
  intro hz
  have on := on_mp h hD hp (mk k 255)
  have dbl : mp iv D x y (mk k 255 * 2) = (0, 1) := by
    rw [← mp_mul h hD hp]
    generalize mp iv D x y (mk k 255) = r at *
    obtain ⟨rx, ry⟩ := r
    simp only at hz on ⊢
    rcases psi_zero h he hz with s | s
    · subst s
      have := y_one h hD on
      subst this
      exact mp_id h D 2
    · subst s
      have := y_neg h hD on
      subst this
      have i := iv_one h
      have o : mp iv D 0 (-1) 1 = (0, -1) := mp_one h D 0 (-1)
      show (addx iv D (mp iv D 0 (-1) 1).1 (mp iv D 0 (-1) 1).2 0 (-1), addy iv D (mp iv D 0 (-1) 1).1 (mp iv D 0 (-1) 1).2 0 (-1)) = _
      rw [o]
      unfold addx addy
      have e1 : 1 + D * (0 * 0 * -1 * -1) = 1 := by grind
      have e2 : 1 - D * (0 * 0 * -1 * -1) = 1 := by grind
      simp only
      rw [e1, e2, i]
      refine Prod.ext ?_ ?_ <;> (simp only; grind)
  have g := mp_gcd h hD hp _ q (mk k 255 * 2) (Nat.le_refl _) ho dbl
  rw [hq.cop (by intro hd; rcases hq.dvd_mul hd with r | r; exact hk r; exact h2q r), mp_one h] at g
  exact hy (congrArg Prod.snd g)

/-- Eight times a point is at infinity if three doublings tell so. -/
def dbl2 (c x z : Fin n) : Fin n × Fin n :=
  ((x + z) * (x + z) * ((x - z) * (x - z)), ((x + z) * (x + z) - (x - z) * (x - z)) * ((x + z) * (x + z) + c * ((x + z) * (x + z) - (x - z) * (x - z))))

theorem fout_eight (h : Fld n iv) (i0 : iv 0 = 0) {c : Fin n} (c0 : c ≠ 0) (c1 : c + 1 ≠ 0) {u : Fin n} (hu : u ≠ 0 → ∃ e D x y, Told c u e D x y) {k : Nat → Bool} {m : Nat} (hk : mk k 255 = 8 * m)
    (hz : u ≠ 0 → (dbl2 c (dbl2 c (dbl2 c u 1).1 (dbl2 c u 1).2).1 (dbl2 c (dbl2 c u 1).1 (dbl2 c u 1).2).2).2 = 0) : fout iv c u k = 0 := by
  by_cases u0 : u = 0
  · subst u0; exact fout_zero i0 c k
  obtain ⟨e, D, x, y, hD, he, hc, hp, hy, y1⟩ := hu u0
  have hz := hz u0
  have d0 : 1 - y ≠ 0 := by intro h3; exact y1 (by grind)
  have i := h.inv _ d0
  have r1 : Rep e y u 1 := ⟨iv (1 - y), by intro h0; rw [h0] at i; exact h.two (by clear hc hp hy hz; grind), by clear hc hp hz; grind, by clear hc hp hy hz; grind⟩
  have d : ∀ {xq yq X Z : Fin n}, On D xq yq → Rep e yq X Z → Rep e (mp iv D xq yq 2).2 (dbl2 c X Z).1 (dbl2 c X Z).2 := by
    intro xq yq X Z hq hr
    have := dbl_rep h hD he hc c0 c1 hq hr
    show Rep e (addy iv D (mp iv D xq yq 1).1 (mp iv D xq yq 1).2 xq yq) _ _
    rw [mp_one h]; exact this
  have r2 := d hp r1
  have o2 := on_mp h hD hp 2
  have r3 := d o2 r2
  have o3 := on_mp h hD o2 2
  have r4 := d o3 r3
  have o4 := on_mp h hD o3 2
  obtain ⟨l, hl, _, hz'⟩ := r4
  rw [hz] at hz'
  rw [mp_mul h hD hp, mp_mul h hD hp] at hz' o4
  have y8 : (mp iv D x y (2 * 2 * 2)).2 = 1 := by
    rcases h.dom hz'.symm with r | r
    · exact absurd r hl
    · clear hz hz' hc hp; grind
  rw [fout_psi h i0 hD he hc c0 c1 hp hy y1 u0, hk, ← mp_mul h hD hp]
  have x8 : (mp iv D x y (2 * 2 * 2)).1 = 0 := by rw [y8] at o4; exact y_one h hD o4
  rw [show (8 : Nat) = 2 * 2 * 2 from rfl, x8, y8, mp_id h, psi_one i0]

end
end Mth
