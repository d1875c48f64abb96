/-
  A multiple of a multiple of the base point is not nought.
-/
import Derived.Test.YtflmkgecgijncaaDoorF19
namespace Mth
section
variable {n : Nat} [NeZero n] {iv : Fin n → Fin n}
theorem psi_ne (h : Fld n iv) {e D : Fin n} (hD : NonSq D) (he : e * e = 1) {x y : Fin n} (hp : On D x y) (hy : y ≠ 1) {q : Nat} (hq : Pr q) (h2q : ¬ q ∣ 2) (ho : mp iv D x y q = (0, 1))
    {m : Nat} (hm : ¬ q ∣ m) : psi iv e (mp iv D x y m).2 ≠ 0 := by
  intro hz
  have on := on_mp h hD hp m
  have dbl : mp iv D x y (m * 2) = (0, 1) := by
    rw [← mp_mul h hD hp]
    generalize mp iv D x y m = r at *
    obtain ⟨rx, ry⟩ := r
    simp only at hz on ⊢
    rcases psi_zero h he hz with s | s
    · subst s
      have := y_one h hD on
      subst this
      exact mp_id h D 2
    · subst s
      have := y_neg h hD on
      subst this
      have i := iv_one h
      have o : mp iv D 0 (-1) 1 = (0, -1) := mp_one h D 0 (-1)
      show (addx iv D (mp iv D 0 (-1) 1).1 (mp iv D 0 (-1) 1).2 0 (-1), addy iv D (mp iv D 0 (-1) 1).1 (mp iv D 0 (-1) 1).2 0 (-1)) = _
      rw [o]
      unfold addx addy
      have e1 : 1 + D * (0 * 0 * -1 * -1) = 1 := by grind
      have e2 : 1 - D * (0 * 0 * -1 * -1) = 1 := by grind
      simp only
      rw [e1, e2, i]
      refine Prod.ext ?_ ?_ <;> (simp only; grind)
  have g := mp_gcd h hD hp _ q (m * 2) (Nat.le_refl _) ho dbl
  rw [hq.cop (by intro hd; rcases hq.dvd_mul hd with r | r; exact hm r; exact h2q r), mp_one h] at g
  exact hy (congrArg Prod.snd g)
end

theorem agree_ne {a b : Nat → Bool} (ha : Clamped a) (hb : Clamped b) : fout iv cA (fout iv cA 9 b) a ≠ 0 := by
  obtain ⟨e, D, x, y, t⟩ := told (u := 9) (by decide)
  rw [fout_psi fld iv0 t.1 t.2.1 t.2.2.1 cA0 cA1 t.2.2.2.1 t.2.2.2.2.1 t.2.2.2.2.2 (by decide), fout_at fld iv0 t.1 t.2.1 t.2.2.1 cA0 cA1 (on_mp fld t.1 t.2.2.2.1 _), mp_mul fld t.1 t.2.2.2.1]
  refine psi_ne fld t.1 t.2.1 t.2.2.2.1 t.2.2.2.2.2 pr_L (by intro hd; exact absurd (Nat.le_of_dvd (by decide) hd) (by decide)) (order t) ?_
  intro hd
  rcases Pr.dvd_mul pr_L hd with r | r
  · exact not_dvd hb r
  · exact not_dvd ha r
end Mth
namespace Go.Proofs.YtflmkgecgijncaaDoor
open Go.RowKit Go.Shelf Mth
theorem lad_agree {f g : Nat → Int} (hf : Byt f) (hg : Byt g) : bvals (lad f (lad g nine)) ≠ bvals (fun _ => 0) := by
  refine lad_ne ?_
  unfold fl; rw [fp_lad]; unfold fl
  rw [unum_nine, show fp 9 = 9 by decide +kernel]
  exact agree_ne (clamped hf) (clamped hg)
end Go.Proofs.YtflmkgecgijncaaDoor
