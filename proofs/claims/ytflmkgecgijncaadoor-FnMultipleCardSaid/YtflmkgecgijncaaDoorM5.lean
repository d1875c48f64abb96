/-
  The field of 2^255 - 19 numbers: powers, squares, the order of the base point.
-/
import Derived.Test.YtflmkgecgijncaaDoorM4
namespace Mth

abbrev P : Nat := 57896044618658097711785492504343953926634992332820282019728792003956564819949
abbrev Fp := Fin P
instance : NeZero P := ⟨by decide⟩

def fpow (a : Fp) : Nat → Fp
  | 0 => 1
  | k + 1 => fpow a k * a

theorem fpow_val (a : Fp) : ∀ k, (fpow a k).val = a.val ^ k % P
  | 0 => rfl
  | k + 1 => by
    show (fpow a k * a).val = _
    rw [Fin.val_mul, fpow_val a k, Nat.pow_succ]
    simp [Nat.mod_mul_mod]

theorem fpow_pm (a : Fp) (k : Nat) (hk : k < 2 ^ 256) : (fpow a k).val = pm P 256 a.val k 1 % P := by
  rw [fpow_val, pm_eq P 256 a.val k 1 hk, Nat.one_mul]

theorem fpow_add (a : Fp) (i : Nat) : ∀ j, fpow a (i + j) = fpow a i * fpow a j
  | 0 => by show fpow a i = fpow a i * 1; grind
  | j + 1 => by show fpow a (i + j) * a = fpow a i * (fpow a j * a); rw [fpow_add a i j]; grind

theorem fpow_mul (a b : Fp) : ∀ j, fpow (a * b) j = fpow a j * fpow b j
  | 0 => by show (1 : Fp) = 1 * 1; grind
  | j + 1 => by show fpow (a * b) j * (a * b) = (fpow a j * a) * (fpow b j * b); rw [fpow_mul a b j]; grind

theorem fpow_pow (a : Fp) (i : Nat) : ∀ j, fpow a (i * j) = fpow (fpow a i) j
  | 0 => rfl
  | j + 1 => by rw [Nat.mul_succ, fpow_add, fpow_pow a i j]; rfl

theorem fpow_one (a : Fp) : fpow a 1 = a := by show 1 * a = a; grind

theorem val_dvd {a : Fp} (ha : a ≠ 0) : ¬ P ∣ a.val := by
  intro h
  have h1 := a.isLt
  have h2 : a.val ≠ 0 := fun h => ha (Fin.ext h)
  exact absurd (Nat.le_of_dvd (by omega) h) (by omega)

theorem little {a : Fp} (ha : a ≠ 0) : fpow a (P - 1) = 1 := by
  apply Fin.ext
  rw [fpow_val, fermat1 pr_P (val_dvd ha)]; rfl

def iv (a : Fp) : Fp := fpow a (P - 2)

theorem iv0 : iv 0 = 0 := by
  unfold iv
  apply Fin.ext
  rw [fpow_pm 0 (P - 2) (by decide)]; decide +kernel

theorem fld : Fld P iv := by
  refine ⟨fun a ha => ?_, by decide⟩
  have h := little ha
  have e : P - 1 = 1 + (P - 2) := by decide
  rw [e, fpow_add, fpow_one] at h
  exact h

def hP : Nat := 28948022309329048855892746252171976963317496166410141009864396001978282409974

theorem euler {a : Fp} (ha : a ≠ 0) : fpow a hP = 1 ∨ fpow a hP = -1 := by
  have h := little ha
  have e : P - 1 = hP + hP := by decide
  rw [e, fpow_add] at h
  generalize fpow a hP = t at *
  have : (t - 1) * (t + 1) = 0 := by grind
  rcases fld.dom this with r | r
  · left; grind
  · right; grind

theorem euler_sq {a : Fp} (ha : a ≠ 0) : fpow (a * a) hP = 1 := by
  rw [fpow_mul, ← fpow_add]
  have e : hP + hP = P - 1 := by decide
  rw [e]; exact little ha

def eP : Nat := 7237005577332262213973186563042994240829374041602535252466099000494570602493
/-- A number whose power tells so is a square. -/
theorem root {a : Fp} (ha : fpow a hP = 1) : ∃ r, r * r = a := by
  have e : hP = (2 * eP + 1) + (2 * eP + 1) := by decide
  have h2 : fpow 2 hP = -1 := by apply Fin.ext; rw [fpow_pm 2 hP (by decide)]; decide +kernel
  rw [e, fpow_add] at ha
  rw [e, fpow_add] at h2
  generalize fpow 2 (2 * eP + 1) = w at *
  have q : fpow a (eP + 1) * fpow a (eP + 1) = fpow a (2 * eP + 1) * a := by
    rw [← fpow_add, show (eP + 1) + (eP + 1) = (2 * eP + 1) + 1 by omega, fpow_add a (2 * eP + 1) 1, fpow_one]
  generalize fpow a (2 * eP + 1) = t at *
  generalize fpow a (eP + 1) = s at *
  have : (t - 1) * (t + 1) = 0 := by clear q h2; grind
  rcases fld.dom this with r | r
  · exact ⟨s, by clear h2 ha this; grind⟩
  · exact ⟨s * w, by clear ha this; grind⟩

theorem no_root {a : Fp} (ha : a ≠ 0) (h : fpow a hP ≠ 1) : NonSq a := by
  intro r hr
  have r0 : r ≠ 0 := by intro h0; rw [h0] at hr; exact ha (by rw [← hr]; grind)
  exact h (by rw [← hr]; exact euler_sq r0)

/-- Of two that are no squares the product is one. -/
theorem two_no {a b : Fp} (ha : a ≠ 0) (hb : b ≠ 0) (na : NonSq a) (nb : NonSq b) : ∃ r, r * r = a * b := by
  have e1 := (euler ha).resolve_left (fun h => by obtain ⟨r, hr⟩ := root h; exact na r hr)
  have e2 := (euler hb).resolve_left (fun h => by obtain ⟨r, hr⟩ := root h; exact nb r hr)
  exact root (by rw [fpow_mul, e1, e2]; grind)

abbrev cA : Fp := 121665
theorem cA0 : cA ≠ 0 := by decide
theorem cA1 : cA + 1 ≠ 0 := by decide
theorem prod_no : NonSq (cA * (cA + 1)) := by
  refine no_root (by decide +kernel) ?_
  intro h
  have h := congrArg Fin.val h
  rw [fpow_pm _ hP (by decide)] at h
  revert h; decide +kernel

theorem neg_root : ∃ r : Fp, r * r = -1 := root (by apply Fin.ext; rw [fpow_pm _ hP (by decide)]; decide +kernel)

theorem d1_no : NonSq (cA * iv (cA + 1)) := by
  intro r hr
  have i := fld.inv _ cA1
  exact prod_no (r * (cA + 1)) (by generalize cA + 1 = d at *; generalize cA = c at *; grind)
theorem d2_no : NonSq ((cA + 1) * iv cA) := by
  intro r hr
  have i := fld.inv _ cA0
  exact prod_no (r * cA) (by generalize cA + 1 = d at *; generalize cA = c at *; grind)

theorem t_ne (u : Fp) : u * u + (4 * cA + 2) * u + 1 ≠ 0 := by
  intro h
  have i := fld.inv _ fld.two
  refine prod_no ((u + 2 * cA + 1) * iv 2) ?_
  generalize cA = c at *
  have e : (u + 2 * c + 1) * (u + 2 * c + 1) = 2 * 2 * (c * (c + 1)) := by clear i; grind
  have e2 : (u + 2 * c + 1) * iv 2 * ((u + 2 * c + 1) * iv 2) = (u + 2 * c + 1) * (u + 2 * c + 1) * (iv 2 * iv 2) := by clear e i h; grind
  rw [e2, e]; clear e e2 h; grind

/-- Each number but 0 is the first coordinate of a point of the curve or of its twist. -/
theorem told {u : Fp} (hu : u ≠ 0) : ∃ e D x y, Told cA u e D x y := by
  have t0 := t_ne u
  have it := fld.inv _ t0
  have i1 := fld.inv _ cA1
  have i0 := fld.inv _ cA0
  obtain ⟨t, ht⟩ : ∃ t, t = u * u + (4 * cA + 2) * u + 1 := ⟨_, rfl⟩
  rw [← ht] at t0 it
  have four : (4 : Fp) ≠ 0 := by decide
  have it0 : iv t ≠ 0 := by intro h0; rw [h0] at it; exact fld.two (by clear i0 i1 ht; grind)
  have w0 : 4 * (cA + 1) * u * iv t ≠ 0 := fld.ne_mul (fld.ne_mul (fld.ne_mul four cA1) hu) it0
  by_cases hs : ∃ r, r * r = 4 * (cA + 1) * u * iv t
  · obtain ⟨x, hx⟩ := hs
    have c0 := cA0
    have no := d1_no
    generalize cA = c at *
    have hc : c * iv (c + 1) * (2 * c + 1 + 1) = 2 * c + 1 - 1 := by clear it ht hx; grind
    obtain ⟨y, h1, h2, h3⟩ := lift fld (e := 1) (c := c) no (by grind) hc (u := u) (x := x) ht t0 (by rw [hx]; clear ht hx hc i1 i0; grind)
    exact ⟨1, _, x, y, no, by grind, hc, h1, h2, h3⟩
  · have d0 : cA * iv (cA + 1) ≠ 0 := by
      intro h0; exact d1_no 0 (by rw [h0]; grind)
    obtain ⟨x, hx⟩ := two_no w0 d0 (fun r hr => hs ⟨r, hr⟩) d1_no
    have c1 := cA1
    have no := d2_no
    generalize cA = c at *
    have hc : (c + 1) * iv c * (2 * c + 1 + -1) = 2 * c + 1 - -1 := by clear it ht hx; grind
    have hx' : x * x = 4 * c * u * iv t := by rw [hx]; clear ht hx hc it i0; grind
    obtain ⟨y, h1, h2, h3⟩ := lift fld (e := -1) (c := c) no (by grind) hc (u := u) (x := x) ht t0 (by rw [hx']; clear ht hx hx' hc i1 i0; grind)
    exact ⟨-1, _, x, y, no, by grind, hc, h1, h2, h3⟩

/-! The order of the base point. -/
abbrev F4 := Fp × Fp × Fp × Fp
def frun (c u : Fp) : List Bool → F4 → F4
  | [], s => s
  | false :: bs, s => frun c u bs (fstep c u s.1 s.2.1 s.2.2.1 s.2.2.2)
  | true :: bs, s =>
    let t := fstep c u s.2.2.1 s.2.2.2 s.1 s.2.1
    frun c u bs (t.2.2.1, t.2.2.2, t.1, t.2.1)

def numB : List Bool → Nat → Nat
  | [], m => m
  | b :: bs, m => numB bs (2 * m + b.toNat)

theorem frun_kept {e D x y u : Fp} (h : Told cA u e D x y) (hu : u ≠ 0) : ∀ (bs : List Bool) (m : Nat) (s : F4), Kept iv D x y e m s.1 s.2.1 s.2.2.1 s.2.2.2 →
    Kept iv D x y e (numB bs m) (frun cA u bs s).1 (frun cA u bs s).2.1 (frun cA u bs s).2.2.1 (frun cA u bs s).2.2.2
  | [], _, _ => id
  | false :: bs, m, _ => fun hk => frun_kept h hu bs (2 * m) _ (kept_zero fld h.1 h.2.1 h.2.2.1 cA0 cA1 h.2.2.2.1 h.2.2.2.2.1 h.2.2.2.2.2 hu hk)
  | true :: bs, m, _ => fun hk => frun_kept h hu bs (2 * m + 1) _ (kept_one fld h.1 h.2.1 h.2.2.1 cA0 cA1 h.2.2.2.1 h.2.2.2.2.1 h.2.2.2.2.2 hu hk)

/-- The same on natural numbers; it tells the second. -/
def nsq (a : Nat) : Nat := a * a % P
def nrun (u : Nat) : List Bool → Nat → Nat → Nat → Nat → Nat
  | [], _, z2, _, _ => z2
  | false :: bs, x2, z2, x3, z3 =>
    nrun u bs (nsq ((x2 + z2) % P) * nsq ((P - z2 + x2) % P) % P)
      ((P - nsq ((P - z2 + x2) % P) + nsq ((x2 + z2) % P)) % P * ((nsq ((x2 + z2) % P) + 121665 * ((P - nsq ((P - z2 + x2) % P) + nsq ((x2 + z2) % P)) % P) % P) % P) % P)
      (nsq (((P - z3 + x3) % P * ((x2 + z2) % P) % P + (x3 + z3) % P * ((P - z2 + x2) % P) % P) % P))
      (u * nsq ((P - (x3 + z3) % P * ((P - z2 + x2) % P) % P + (P - z3 + x3) % P * ((x2 + z2) % P) % P) % P) % P)
  | true :: bs, x3, z3, x2, z2 =>
    nrun u bs (nsq (((P - z3 + x3) % P * ((x2 + z2) % P) % P + (x3 + z3) % P * ((P - z2 + x2) % P) % P) % P))
      (u * nsq ((P - (x3 + z3) % P * ((P - z2 + x2) % P) % P + (P - z3 + x3) % P * ((x2 + z2) % P) % P) % P) % P)
      (nsq ((x2 + z2) % P) * nsq ((P - z2 + x2) % P) % P)
      ((P - nsq ((P - z2 + x2) % P) + nsq ((x2 + z2) % P)) % P * ((nsq ((x2 + z2) % P) + 121665 * ((P - nsq ((P - z2 + x2) % P) + nsq ((x2 + z2) % P)) % P) % P) % P) % P)

theorem nrun_eq (u : Fp) : ∀ (bs : List Bool) (s : F4), (frun cA u bs s).2.1.val = nrun u.val bs s.1.val s.2.1.val s.2.2.1.val s.2.2.2.val
  | [], _ => rfl
  | false :: bs, _ => nrun_eq u bs _
  | true :: bs, _ => nrun_eq u bs (_, _, _, _)

def oL : Nat := 7237005577332262213973186563042994240857116359379907606001950938285454250989
def oBits : List Bool := (List.range 253).map fun i => oL.testBit (252 - i)
theorem oBits_num : numB oBits 0 = oL := by decide +kernel
theorem oBits_run : nrun (9 : Fp).val oBits (1 : Fp).val (0 : Fp).val (9 : Fp).val (1 : Fp).val = (0 : Fp).val := by decide +kernel
end Mth
