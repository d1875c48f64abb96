/-
  The ladder's laws for clamped scalars.
-/
import Derived.Test.YtflmkgecgijncaaDoorM5
namespace Mth

theorem kept_start {e D x y u : Fp} (h : Told cA u e D x y) (hu : u ≠ 0) : Kept iv D x y e 0 1 0 u 1 :=
  kept_all fld h.1 h.2.1 h.2.2.1 cA0 cA1 h.2.2.2.1 h.2.2.2.2.1 h.2.2.2.2.2 hu (fun _ => false) 0

theorem nrun_at (u : Fp) (bs : List Bool) (a b c d : Fp) (h : nrun u.val bs a.val b.val c.val d.val = (0 : Fp).val) : (frun cA u bs (a, b, c, d)).2.1 = 0 := Fin.ext ((nrun_eq u bs (a, b, c, d)).trans h)
theorem order_z : (frun cA 9 oBits (1, 0, 9, 1)).2.1 = 0 := nrun_at _ _ _ _ _ _ oBits_run

theorem kept_run {e D x y u : Fp} (h : Told cA u e D x y) (hu : u ≠ 0) (bs : List Bool) {a b c d : Fp} (hk : Kept iv D x y e 0 a b c d) : Rep e (mp iv D x y (numB bs 0)).2 (frun cA u bs (a, b, c, d)).1 (frun cA u bs (a, b, c, d)).2.1 :=
  (frun_kept h hu bs 0 (a, b, c, d) hk).a

theorem order_of {e D x y X Z : Fp} {q : Nat} (hD : NonSq D) (hp : On D x y) (k : Rep e (mp iv D x y q).2 X Z) (z : Z = 0) : mp iv D x y q = (0, 1) := by
  obtain ⟨l, hl, _, hz⟩ := k
  have on := on_mp fld hD hp q
  have y1 : (mp iv D x y q).2 = 1 := by
    rcases fld.dom (z.symm.trans hz).symm with r | r
    · exact absurd r hl
    · generalize (mp iv D x y q).2 = t at *; clear hz on; grind
  have x1 : (mp iv D x y q).1 = 0 := by rw [y1] at on; exact y_one fld hD on
  exact Prod.ext x1 y1

theorem order_num {e D x y : Fp} (h : Told cA 9 e D x y) : mp iv D x y (numB oBits 0) = (0, 1) := by
  have k9 : Kept iv D x y e 0 1 0 9 1 := kept_start h (by decide)
  have z := order_z
  have r := kept_run h (by decide) oBits k9
  generalize frun cA 9 oBits (1, 0, 9, 1) = s at z r
  exact order_of h.1 h.2.2.2.1 r z

/-- The base point's order. -/
theorem order {e D x y : Fp} (h : Told cA 9 e D x y) : mp iv D x y oL = (0, 1) := by
  have := order_num h
  rw [oBits_num] at this
  exact this

/-- A scalar as the ladder takes it. -/
structure Clamped (k : Nat → Bool) : Prop where
  b0 : k 0 = false
  b1 : k 1 = false
  b2 : k 2 = false
  top : k 254 = true

theorem mk_eight {k : Nat → Bool} (h : Clamped k) : mk k 255 = 8 * mk k 252 := by
  have e : mk k 255 = 2 * (2 * (2 * mk k 252 + (k 2).toNat) + (k 1).toNat) + (k 0).toNat := rfl
  rw [e, h.b0, h.b1, h.b2]; show 2 * (2 * (2 * mk k 252 + 0) + 0) + 0 = _; omega

theorem mk_pos {k : Nat → Bool} (h : Clamped k) : ∀ j, 0 < mk k (j + 1)
  | 0 => by
    have e : mk k 1 = 2 * 0 + (k 254).toNat := rfl
    rw [e, h.top]; decide
  | j + 1 => by
    have := mk_pos h j
    show 0 < 2 * mk k (j + 1) + _
    omega

theorem not_dvd {k : Nat → Bool} (h : Clamped k) : ¬ oL ∣ mk k 255 := by
  rw [mk_eight h]
  intro hd
  rcases Pr.dvd_mul pr_L hd with r | r
  · exact absurd (Nat.le_of_dvd (by decide) r) (by decide)
  · have h1 := mk_lt k 252
    have h2 : 0 < mk k 252 := mk_pos h 251
    have h3 := Nat.le_of_dvd h2 r
    have h4 : (2 : Nat) ^ 252 < oL := by decide +kernel
    omega

/-- The public key is not nought. -/
theorem pub_ne {k : Nat → Bool} (h : Clamped k) : fout iv cA 9 k ≠ 0 := by
  obtain ⟨e, D, x, y, t⟩ := told (u := 9) (by decide)
  exact fout_ne fld iv0 t.1 t.2.1 t.2.2.1 cA0 cA1 t.2.2.2.1 t.2.2.2.2.1 t.2.2.2.2.2 (by decide) pr_L (by intro hd; exact absurd (Nat.le_of_dvd (by decide) hd) (by decide)) (order t) (not_dvd h)

/-- Scalars may be taken in either order. -/
theorem turns (u : Fp) (a b : Nat → Bool) : fout iv cA (fout iv cA u b) a = fout iv cA (fout iv cA u a) b :=
  fout_turns fld iv0 cA0 cA1 (fun h => told h) a b

/-- Of points of small order the ladder tells 0. -/
theorem small_order {u : Fp} {k : Nat → Bool} (h : Clamped k) (hz : u ≠ 0 → (dbl2 cA (dbl2 cA (dbl2 cA u 1).1 (dbl2 cA u 1).2).1 (dbl2 cA (dbl2 cA u 1).1 (dbl2 cA u 1).2).2).2 = 0) : fout iv cA u k = 0 :=
  fout_eight fld iv0 cA0 cA1 (fun h => told h) (mk_eight h) hz

/-! Numbers of Int. -/
def fp (x : Int) : Fp := ⟨(x % 57896044618658097711785492504343953926634992332820282019728792003956564819949).toNat, by unfold P; omega⟩

theorem fp_eq {x y : Int} (h : x % 57896044618658097711785492504343953926634992332820282019728792003956564819949 = y % 57896044618658097711785492504343953926634992332820282019728792003956564819949) : fp x = fp y := by
  apply Fin.ext; show (_ : Int).toNat = (_ : Int).toNat; rw [h]
theorem fp_add (x y : Int) : fp (x + y) = fp x + fp y := by
  apply Fin.ext; rw [Fin.val_add]; show (_ : Int).toNat = ((_ : Int).toNat + (_ : Int).toNat) % P; unfold P; omega
theorem fp_sub (x y : Int) : fp (x - y) = fp x - fp y := by
  apply Fin.ext; rw [Fin.sub_def]; show (_ : Int).toNat = (P - (_ : Int).toNat + (_ : Int).toNat) % P; unfold P; omega
theorem fp_mul (x y : Int) : fp (x * y) = fp x * fp y := by
  apply Fin.ext
  rw [Fin.val_mul]
  show (_ : Int).toNat = ((_ : Int).toNat * (_ : Int).toNat) % P
  rw [Int.mul_emod]
  have hx := Int.emod_nonneg x (show (57896044618658097711785492504343953926634992332820282019728792003956564819949 : Int) ≠ 0 by decide)
  have hy := Int.emod_nonneg y (show (57896044618658097711785492504343953926634992332820282019728792003956564819949 : Int) ≠ 0 by decide)
  generalize x % 57896044618658097711785492504343953926634992332820282019728792003956564819949 = a at *
  generalize y % 57896044618658097711785492504343953926634992332820282019728792003956564819949 = b at *
  obtain ⟨a, rfl⟩ := Int.eq_ofNat_of_zero_le hx
  obtain ⟨b, rfl⟩ := Int.eq_ofNat_of_zero_le hy
  unfold P
  rw [← Int.natCast_mul, Int.toNat_natCast, Int.toNat_natCast]
  generalize a * b = c
  omega
theorem fp_val (x : Int) : ((fp x).val : Int) = x % 57896044618658097711785492504343953926634992332820282019728792003956564819949 := by
  show (((_ : Int).toNat : Nat) : Int) = _; omega
theorem fp_inj {x y : Int} (h : fp x = fp y) : x % 57896044618658097711785492504343953926634992332820282019728792003956564819949 = y % 57896044618658097711785492504343953926634992332820282019728792003956564819949 := by
  rw [← fp_val, ← fp_val, h]
theorem fp_pow (x : Int) : ∀ k : Nat, fp (x ^ k) = fpow (fp x) k
  | 0 => by rw [Int.pow_zero]; rfl
  | k + 1 => by rw [Int.pow_succ, fp_mul, fp_pow x k]; rfl
end Mth
