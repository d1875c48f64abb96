/-
  Multiples of a point, and what the ladder tells, over Fin n.
-/
import Derived.Test.YtflmkgecgijncaaDoorM2
namespace Mth
section
variable {n : Nat} [NeZero n]
variable (iv : Fin n → Fin n)

/-- The multiples of a point. -/
def mp (D x y : Fin n) : Nat → Fin n × Fin n
  | 0 => (0, 1)
  | k + 1 => (addx iv D (mp D x y k).1 (mp D x y k).2 x y, addy iv D (mp D x y k).1 (mp D x y k).2 x y)

variable {iv}
theorem on_mp (h : Fld n iv) {D x y : Fin n} (hD : NonSq D) (hp : On D x y) : ∀ k, On D (mp iv D x y k).1 (mp iv D x y k).2
  | 0 => on_id D
  | k + 1 => closed h hD (on_mp h hD hp k) hp

theorem id_add (h : Fld n iv) (D x y : Fin n) : addx iv D 0 1 x y = x ∧ addy iv D 0 1 x y = y := by
  rw [addx_comm, addy_comm]; exact add_id h D x y

theorem mp_one (h : Fld n iv) (D x y : Fin n) : mp iv D x y 1 = (x, y) := by
  unfold mp; unfold mp; rw [(id_add h D x y).1, (id_add h D x y).2]

theorem mp_add (h : Fld n iv) {D x y : Fin n} (hD : NonSq D) (hp : On D x y) (a : Nat) : ∀ b, mp iv D x y (a + b) =
    (addx iv D (mp iv D x y a).1 (mp iv D x y a).2 (mp iv D x y b).1 (mp iv D x y b).2, addy iv D (mp iv D x y a).1 (mp iv D x y a).2 (mp iv D x y b).1 (mp iv D x y b).2)
  | 0 => by show mp iv D x y a = _; rw [show mp iv D x y 0 = (0, 1) from rfl, (add_id h D _ _).1, (add_id h D _ _).2]
  | b + 1 => by
    have ih := mp_add h hD hp a b
    show (addx iv D (mp iv D x y (a + b)).1 (mp iv D x y (a + b)).2 x y, addy iv D (mp iv D x y (a + b)).1 (mp iv D x y (a + b)).2 x y) = _
    rw [ih]
    have ha := on_mp h hD hp a
    have hb := on_mp h hD hp b
    rw [assoc_x h hD ha hb hp, assoc_y h hD ha hb hp]
    rfl

theorem mp_mul (h : Fld n iv) {D x y : Fin n} (hD : NonSq D) (hp : On D x y) (a : Nat) : ∀ b, mp iv D (mp iv D x y a).1 (mp iv D x y a).2 b = mp iv D x y (a * b)
  | 0 => rfl
  | b + 1 => by
    have ih := mp_mul h hD hp a b
    rw [Nat.mul_succ, mp_add h hD hp (a * b) a, ← ih]; rfl

/-- Multiples of the identity. -/
theorem mp_id (h : Fld n iv) (D : Fin n) : ∀ k, mp iv D 0 1 k = (0, 1)
  | 0 => rfl
  | k + 1 => by
    show (addx iv D (mp iv D 0 1 k).1 (mp iv D 0 1 k).2 0 1, addy iv D (mp iv D 0 1 k).1 (mp iv D 0 1 k).2 0 1) = _
    rw [mp_id h D k, (id_add h D 0 1).1, (id_add h D 0 1).2]

/-- A point with y = 1 is the identity. -/
theorem y_one (h : Fld n iv) {D x : Fin n} (hD : NonSq D) (hp : On D x 1) : x = 0 := by
  unfold On at hp
  have e : (x * x) * (1 - D) = 0 := by grind
  rcases h.dom e with r | r
  · rcases h.dom r with r | r <;> exact r
  · exact absurd (show (1 : Fin n) * 1 = D by grind) (hD 1)

theorem y_neg (h : Fld n iv) {D x : Fin n} (hD : NonSq D) (hp : On D x (-1)) : x = 0 := by
  unfold On at hp
  have e : (x * x) * (1 - D) = 0 := by grind
  rcases h.dom e with r | r
  · rcases h.dom r with r | r <;> exact r
  · exact absurd (show (1 : Fin n) * 1 = D by grind) (hD 1)

/-- One ladder's round. -/
def fstep (c u x2 z2 x3 z3 : Fin n) : Fin n × Fin n × Fin n × Fin n :=
  ((x2 + z2) * (x2 + z2) * ((x2 - z2) * (x2 - z2)),
   ((x2 + z2) * (x2 + z2) - (x2 - z2) * (x2 - z2)) * ((x2 + z2) * (x2 + z2) + c * ((x2 + z2) * (x2 + z2) - (x2 - z2) * (x2 - z2))),
   ((x3 - z3) * (x2 + z2) + (x3 + z3) * (x2 - z2)) * ((x3 - z3) * (x2 + z2) + (x3 + z3) * (x2 - z2)),
   u * (((x3 - z3) * (x2 + z2) - (x3 + z3) * (x2 - z2)) * ((x3 - z3) * (x2 + z2) - (x3 + z3) * (x2 - z2))))

def fsel (c : Bool) (a b : Fin n) : Fin n := if c then b else a

def fpst (c u : Fin n) (k : Nat → Bool) : Nat → (Fin n × Fin n × Fin n × Fin n) × Bool
  | 0 => ((1, 0, u, 1), false)
  | j + 1 =>
    let s := fpst c u k j
    let b := k (254 - j)
    let d := s.2 != b
    (fstep c u (fsel d s.1.1 s.1.2.2.1) (fsel d s.1.2.1 s.1.2.2.2) (fsel d s.1.2.2.1 s.1.1) (fsel d s.1.2.2.2 s.1.2.1), b)

/-- The number of the highest j bits. -/
def mk (k : Nat → Bool) : Nat → Nat
  | 0 => 0
  | j + 1 => 2 * mk k j + (k (254 - j)).toNat

theorem mk_lt (k : Nat → Bool) : ∀ j, mk k j < 2 ^ j
  | 0 => Nat.one_pos
  | j + 1 => by
    have := mk_lt k j
    have h : (k (254 - j)).toNat ≤ 1 := Bool.toNat_le _
    show 2 * mk k j + _ < _
    rw [Nat.pow_succ]; omega

/-- What the ladder keeps: the two ratios are those of m and m + 1 times the point. -/
structure Kept (iv : Fin n → Fin n) (D x y e : Fin n) (m : Nat) (x2 z2 x3 z3 : Fin n) : Prop where
  a : Rep e (mp iv D x y m).2 x2 z2
  b : Rep e (mp iv D x y (m + 1)).2 x3 z3

variable {e c D : Fin n}
theorem kept_zero (h : Fld n iv) (hD : NonSq D) (he : e * e = 1) (hc : D * (2 * c + 1 + e) = 2 * c + 1 - e) (c0 : c ≠ 0) (c1 : c + 1 ≠ 0)
    {x y u : Fin n} (hp : On D x y) (hu : u * (1 - y) = e * (1 + y)) (hy : y ≠ 1) (hu0 : u ≠ 0) {m : Nat} {x2 z2 x3 z3 : Fin n} (hk : Kept iv D x y e m x2 z2 x3 z3) :
    Kept iv D x y e (2 * m) (fstep c u x2 z2 x3 z3).1 (fstep c u x2 z2 x3 z3).2.1 (fstep c u x2 z2 x3 z3).2.2.1 (fstep c u x2 z2 x3 z3).2.2.2 := by
  have hq := on_mp h hD hp m
  refine ⟨?_, ?_⟩
  · have := dbl_rep h hD he hc c0 c1 hq hk.a
    rw [show 2 * m = m + m by omega, mp_add h hD hp m m]; exact this
  · have := diff_rep h hD he hq hp hu hy hu0 hk.a hk.b
    rw [show 2 * m + 1 = m + (m + 1) by omega, mp_add h hD hp m (m + 1)]; exact this

theorem kept_one (h : Fld n iv) (hD : NonSq D) (he : e * e = 1) (hc : D * (2 * c + 1 + e) = 2 * c + 1 - e) (c0 : c ≠ 0) (c1 : c + 1 ≠ 0)
    {x y u : Fin n} (hp : On D x y) (hu : u * (1 - y) = e * (1 + y)) (hy : y ≠ 1) (hu0 : u ≠ 0) {m : Nat} {x2 z2 x3 z3 : Fin n} (hk : Kept iv D x y e m x3 z3 x2 z2) :
    Kept iv D x y e (2 * m + 1) (fstep c u x2 z2 x3 z3).2.2.1 (fstep c u x2 z2 x3 z3).2.2.2 (fstep c u x2 z2 x3 z3).1 (fstep c u x2 z2 x3 z3).2.1 := by
  have hq := on_mp h hD hp m
  have hq1 := on_mp h hD hp (m + 1)
  refine ⟨?_, ?_⟩
  · have := diff_rep h hD he hq hp hu hy hu0 hk.a hk.b
    rw [show 2 * m + 1 = m + (m + 1) by omega, mp_add h hD hp m (m + 1)]
    have e1 : (fstep c u x2 z2 x3 z3).2.2.1 = ((x2 - z2) * (x3 + z3) + (x2 + z2) * (x3 - z3)) * ((x2 - z2) * (x3 + z3) + (x2 + z2) * (x3 - z3)) := by unfold fstep; clear this hk hq hq1 hu hc hp; grind
    have e2 : (fstep c u x2 z2 x3 z3).2.2.2 = u * (((x2 - z2) * (x3 + z3) - (x2 + z2) * (x3 - z3)) * ((x2 - z2) * (x3 + z3) - (x2 + z2) * (x3 - z3))) := by unfold fstep; clear this hk hq hq1 hu hc hp e1; grind
    rw [e1, e2]; exact this
  · have := dbl_rep h hD he hc c0 c1 hq1 hk.b
    rw [show 2 * m + 1 + 1 = (m + 1) + (m + 1) by omega, mp_add h hD hp (m + 1) (m + 1)]; exact this

theorem kept_all (h : Fld n iv) (hD : NonSq D) (he : e * e = 1) (hc : D * (2 * c + 1 + e) = 2 * c + 1 - e) (c0 : c ≠ 0) (c1 : c + 1 ≠ 0)
    {x y u : Fin n} (hp : On D x y) (hu : u * (1 - y) = e * (1 + y)) (hy : y ≠ 1) (hu0 : u ≠ 0) (k : Nat → Bool) : ∀ j,
    Kept iv D x y e (mk k j) (fsel (fpst c u k j).2 (fpst c u k j).1.1 (fpst c u k j).1.2.2.1) (fsel (fpst c u k j).2 (fpst c u k j).1.2.1 (fpst c u k j).1.2.2.2)
      (fsel (fpst c u k j).2 (fpst c u k j).1.2.2.1 (fpst c u k j).1.1) (fsel (fpst c u k j).2 (fpst c u k j).1.2.2.2 (fpst c u k j).1.2.1)
  | 0 => by
    have e0 : e ≠ 0 := by intro h0; rw [h0] at he; exact h.two (by grind)
    have i2 := h.inv 2 h.two
    have d0 : 1 - y ≠ 0 := by intro h0; exact hy (by grind)
    have id := h.inv _ d0
    refine ⟨⟨iv 2 * e, ?_, ?_, ?_⟩, ⟨iv (1 - y), ?_, ?_, ?_⟩⟩
    · refine h.ne_mul ?_ e0
      intro h0; rw [h0] at i2; exact h.two (by grind)
    · show (1 : Fin n) = iv 2 * e * e * (1 + 1)
      clear hc hp hu id; grind
    · show (0 : Fin n) = iv 2 * e * (1 - 1); clear hc hp hu id; grind
    · intro h0; rw [h0] at id; exact h.two (by clear hc hp hu; grind)
    · rw [show mk k 0 = 0 from rfl, show (0 + 1) = 1 from rfl, mp_one h]
      show u = iv (1 - y) * e * (1 + y); clear hc hp i2; grind
    · rw [show mk k 0 = 0 from rfl, show (0 + 1) = 1 from rfl, mp_one h]
      show (1 : Fin n) = iv (1 - y) * (1 - y); clear hc hp i2; grind
  | j + 1 => by
    have ih := kept_all h hD he hc c0 c1 hp hu hy hu0 k j
    show Kept iv D x y e (2 * mk k j + (k (254 - j)).toNat) (fsel (k (254 - j)) _ _) (fsel (k (254 - j)) _ _) (fsel (k (254 - j)) _ _) (fsel (k (254 - j)) _ _)
    simp only [fpst]
    generalize fpst c u k j = s at *
    obtain ⟨⟨x2, z2, x3, z3⟩, b⟩ := s
    cases hb : k (254 - j) <;> cases b
    · exact kept_zero h hD he hc c0 c1 hp hu hy hu0 ih
    · exact kept_zero h hD he hc c0 c1 hp hu hy hu0 ih
    · exact kept_one h hD he hc c0 c1 hp hu hy hu0 ih
    · exact kept_one h hD he hc c0 c1 hp hu hy hu0 ih

/-- The first coordinate at a point with this y. -/
def psi (iv : Fin n → Fin n) (e y : Fin n) : Fin n := e * (1 + y) * iv (1 - y)

theorem rep_psi (h : Fld n iv) (i0 : iv 0 = 0) {e y x z : Fin n} (hr : Rep e y x z) : x * iv z = psi iv e y := by
  obtain ⟨k, hk, hx, hz⟩ := hr
  unfold psi
  by_cases h1 : 1 - y = 0
  · have z0 : z = 0 := by rw [hz, h1]; grind
    rw [z0, h1, i0]; grind
  · have z0 : z ≠ 0 := by rw [hz]; exact h.ne_mul hk h1
    have a := h.inv z z0
    have b := h.inv _ h1
    refine h.cancel z0 ?_
    have t1 : z * (x * iv z) = x := by grind
    have t2 : z * (e * (1 + y) * iv (1 - y)) = k * e * (1 + y) * ((1 - y) * iv (1 - y)) := by rw [hz]; clear a b; grind
    rw [t1, t2, b, hx]; clear a b t1 t2; grind

/-- What the ladder tells of a first coordinate. -/
def fout (iv : Fin n → Fin n) (c u : Fin n) (k : Nat → Bool) : Fin n :=
  fsel (fpst c u k 255).2 (fpst c u k 255).1.1 (fpst c u k 255).1.2.2.1 * iv (fsel (fpst c u k 255).2 (fpst c u k 255).1.2.1 (fpst c u k 255).1.2.2.2)

theorem fout_psi (h : Fld n iv) (i0 : iv 0 = 0) (hD : NonSq D) (he : e * e = 1) (hc : D * (2 * c + 1 + e) = 2 * c + 1 - e) (c0 : c ≠ 0) (c1 : c + 1 ≠ 0)
    {x y u : Fin n} (hp : On D x y) (hu : u * (1 - y) = e * (1 + y)) (hy : y ≠ 1) (hu0 : u ≠ 0) (k : Nat → Bool) : fout iv c u k = psi iv e (mp iv D x y (mk k 255)).2 :=
  rep_psi h i0 (kept_all h hD he hc c0 c1 hp hu hy hu0 k 255).a

/-- Of the first coordinate 0 the ladder tells 0. -/
theorem zero_all (c : Fin n) (k : Nat → Bool) : ∀ j, (fpst c 0 k (j + 1)).1.2.1 = 0 ∧ (fpst c 0 k (j + 1)).1.2.2.2 = 0
  | 0 => by
    simp only [fpst]
    generalize (false != k (254 - 0)) = b
    cases b <;> (simp only [fstep, fsel]; grind)
  | j + 1 => by
    have ih := zero_all c k j
    rw [fpst]
    generalize fpst c 0 k (j + 1) = s at *
    obtain ⟨⟨x2, z2, x3, z3⟩, d⟩ := s
    obtain ⟨h1, h2⟩ := ih
    simp only at h1 h2
    subst h1 h2
    simp only
    generalize (d != k (254 - (j + 1))) = b
    cases b <;> (simp only [fstep, fsel]; grind)

theorem fout_zero (i0 : iv 0 = 0) (c : Fin n) (k : Nat → Bool) : fout iv c 0 k = 0 := by
  have := zero_all c k 254
  unfold fout
  rw [this.1, this.2]
  have e : ∀ d, fsel d (0 : Fin n) 0 = 0 := by intro d; cases d <;> rfl
  rw [e, i0]; grind

end
end Mth
