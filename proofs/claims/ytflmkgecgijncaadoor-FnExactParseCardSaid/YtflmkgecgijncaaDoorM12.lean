/-
  Square roots: what spec.root tells, and what SqrtRatio tells.
  What a point's decoding asks: whether a fraction is a square.
-/
import Derived.Test.YtflmkgecgijncaaDoorM6

namespace Mth
/-- (p + 3) / 8, (p - 1) / 4, (p - 5) / 8. -/
def q8 : Nat := 7237005577332262213973186563042994240829374041602535252466099000494570602494
def q4 : Nat := 14474011154664524427946373126085988481658748083205070504932198000989141204987
def e8 : Nat := 7237005577332262213973186563042994240829374041602535252466099000494570602493

def isq (t : Fp) : Prop := ∃ s, s * s = t

theorem fpow_zero' : ∀ k, fpow (0 : Fp) (k + 1) = 0 := fun k => by show fpow 0 k * 0 = 0; grind
theorem fpow_sq (a : Fp) (k : Nat) : fpow (a * a) k = fpow a k * fpow a k := fpow_mul a a k

/-- The root of -1. -/
def rI : Fp := fpow 2 q4
theorem rI_sq : rI * rI = -1 := by
  unfold rI
  rw [← fpow_add]
  apply Fin.ext
  rw [fpow_pm _ (q4 + q4) (by decide)]; decide +kernel

theorem e_q8 : q8 + q8 = q4 + 1 := by decide
theorem e_q4 : q4 + q4 = hP := by decide
theorem e_e8 : e8 + e8 + 1 + (e8 + e8 + 1) = hP := by decide

/-- spec.root, before the sign. -/
def root1 (t : Fp) : Fp := if fpow t q8 * fpow t q8 = t then fpow t q8 else fpow t q8 * rI

theorem root1_is (t : Fp) : root1 t * root1 t = t ↔ isq t := by
  constructor
  · exact fun h => ⟨_, h⟩
  · rintro ⟨s, rfl⟩
    unfold root1
    by_cases h : fpow (s * s) q8 * fpow (s * s) q8 = s * s
    · rw [if_pos h]; exact h
    · rw [if_neg h]
      have e : fpow (s * s) q8 * fpow (s * s) q8 = fpow s hP * (s * s) := by
        rw [← fpow_add, e_q8]
        show fpow (s * s) q4 * (s * s) = _
        rw [fpow_sq, ← fpow_add, e_q4]
      by_cases s0 : s = 0
      · exfalso; apply h; rw [e, s0]; grind
      · rcases euler s0 with r | r
        · exfalso; apply h; rw [e, r]; grind
        · have e2 : fpow (s * s) q8 * rI * (fpow (s * s) q8 * rI) = (fpow (s * s) q8 * fpow (s * s) q8) * (rI * rI) := by
            generalize fpow (s * s) q8 = z; clear e h r; grind
          rw [e2, e, r, rI_sq]; clear e e2 h r; grind

/-- What SqrtRatio makes. -/
def sr (u v : Fp) : Fp := u * (v * v * v) * fpow (u * (v * v * v) * (v * v * (v * v))) e8

theorem sr_is {u v : Fp} (hv : v ≠ 0) : (v * (sr u v * sr u v) = u ∨ v * (sr u v * sr u v) = -u) ↔ isq (u * iv v) := by
  have i := fld.inv v hv
  generalize iv v = vi at *
  constructor
  · rintro (h | h)
    · refine ⟨sr u v, ?_⟩
      generalize sr u v = r at *
      rw [← h]
      have : v * (r * r) * vi = r * r * (v * vi) := by clear h i; grind
      rw [this, i]; clear this h i; grind
    · refine ⟨rI * sr u v, ?_⟩
      generalize sr u v = r at *
      have hu : u = -(v * (r * r)) := by rw [h]; clear i h; grind
      rw [hu]
      have e1 : rI * r * (rI * r) = rI * rI * (r * r) := by clear h hu i; grind
      have e2 : -(v * (r * r)) * vi = -(r * r * (v * vi)) := by clear h hu i e1; grind
      rw [e1, e2, rI_sq, i]; clear e1 e2 h hu i; grind
  · rintro ⟨s, hs⟩
    have hu : u = s * s * v := by
      have : u = u * (v * vi) := by rw [i]; grind
      rw [this]
      have e : u * (v * vi) = u * vi * v := by clear hs i this; grind
      rw [e, ← hs]
    obtain ⟨w, hw⟩ : ∃ w, w = s * (v * v * (v * v)) := ⟨_, rfl⟩
    have e1 : u * (v * v * v) * (v * v * (v * v)) = w * w := by rw [hu, hw]; clear i hs; grind
    have e2 : u * (v * v * v) = s * w := by rw [hu, hw]; clear i hs e1; grind
    have e3 : v * (sr u v * sr u v) = u * (fpow w hP) := by
      unfold sr
      rw [e1, e2, fpow_sq, ← e_e8]
      have e4 : fpow w (e8 + e8 + 1 + (e8 + e8 + 1)) = fpow w e8 * fpow w e8 * w * (fpow w e8 * fpow w e8 * w) := by
        rw [fpow_add]
        have : fpow w (e8 + e8 + 1) = fpow w e8 * fpow w e8 * w := by rw [fpow_add, fpow_add, fpow_one]
        rw [this]
      rw [e4, hu]
      generalize fpow w e8 = z
      clear e1 e2 e4 hu hs i hw
      grind
    by_cases w0 : w = 0
    · left
      have s0 : s = 0 := by
        rw [w0] at hw
        rcases fld.dom hw.symm with r | r
        · exact r
        · exact absurd r (fld.ne_mul (fld.ne_mul hv hv) (fld.ne_mul hv hv))
      rw [e3, hu, s0]; clear e1 e2 e3 hu hs i hw; grind
    · rcases euler w0 with r | r
      · left; rw [e3, r]; clear e1 e2 e3 hu hs i hw r; grind
      · right; rw [e3, r]; clear e1 e2 e3 hu hs i hw r; grind

theorem sub_mul0 {n : Nat} [NeZero n] (c z : Fin n) : (0 - c) * z = -(c * z) := by grind
theorem den_gen (c z y : Fp) (hd : NonSq (c * z)) : (0 - c) * z * (y * y) + 1 ≠ 0 := by
  intro h
  rw [sub_mul0] at h
  generalize c * z = z at *
  have h1 : z * (y * y) = 1 := by clear hd; grind
  have y0 : y ≠ 0 := by intro y0; rw [y0] at h1; exact fld.two (by clear hd h; grind)
  have i := fld.inv y y0
  generalize iv y = yi at *
  have e : yi * yi = z := by
    have : yi * yi = z * (y * yi) * (y * yi) := by
      have e2 : yi * yi = z * (y * y) * (yi * yi) := by rw [h1]; clear h1 h i hd; grind
      rw [e2]; clear h1 h i hd e2; grind
    rw [this, i]; clear this h1 h i hd; grind
  exact hd yi e
/-- The Edwards curve's d. -/
theorem den_ne (y : Fp) : (0 - cA) * iv (cA + 1) * (y * y) + 1 ≠ 0 := den_gen cA (iv (cA + 1)) y d1_no
end Mth

namespace Mth
/-- The curve's d, as the code has it. -/
def dC : Fp := (0 - cA) * iv (cA + 1)
theorem dC_of {a : Fp} (h : a * (cA + 1) = 0 - cA) : a = dC := by
  have i := fld.inv (cA + 1) cA1
  unfold dC
  rw [← h]
  generalize iv (cA + 1) = z at *
  generalize cA + 1 = c at *
  have : a * c * z = a * (c * z) := by clear i h; grind
  rw [this, i]; clear this i h; grind

/-- The same, as the code takes it. -/
def uOf (y : Fp) : Fp := y * y - 1
def vOf (y : Fp) : Fp := y * y * dC + 1
theorem vOf_eq (y : Fp) : vOf y = (0 - cA) * iv (cA + 1) * (y * y) + 1 := by
  unfold vOf dC
  generalize (0 - cA) * iv (cA + 1) = d
  grind
theorem vOf_ne (y : Fp) : vOf y ≠ 0 := by rw [vOf_eq]; exact den_ne y
/-- What SqrtRatio finds, of u and v. -/
def found (y : Fp) : Prop := vOf y * (sr (uOf y) (vOf y) * sr (uOf y) (vOf y)) = uOf y ∨ vOf y * (sr (uOf y) (vOf y) * sr (uOf y) (vOf y)) = -uOf y
theorem found_is (y : Fp) : found y ↔ isq ((y * y - 1) * iv ((0 - cA) * iv (cA + 1) * (y * y) + 1)) := by
  unfold found
  rw [sr_is (vOf_ne y), vOf_eq]
  exact Iff.rfl
end Mth
