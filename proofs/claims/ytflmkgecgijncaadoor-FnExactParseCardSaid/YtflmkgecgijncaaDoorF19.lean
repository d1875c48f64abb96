/-
  What the ladder tells, in the field.
-/
import Derived.Test.YtflmkgecgijncaaDoorF18
import Derived.Test.YtflmkgecgijncaaDoorM6
namespace Go.Proofs.YtflmkgecgijncaaDoor
open Go.RowKit Go.Shelf Mth

theorem fp_zp (Z : Int) : fp (zp Z 57896044618658097711785492504343953926634992332820282019728792003956564819947) = iv (fp Z) := by
  unfold zp iv; exact fp_pow Z _

theorem fp_sel (c : Bool) (a b : Int) : fp (sel c a b) = fsel c (fp a) (fp b) := by cases c <;> rfl

theorem fp_pst (u : Int) (k : Nat → Bool) : ∀ j, (pst u k j).2 = (fpst cA (fp u) k j).2 ∧ fp (pst u k j).1.1 = (fpst cA (fp u) k j).1.1 ∧ fp (pst u k j).1.2.1 = (fpst cA (fp u) k j).1.2.1 ∧
    fp (pst u k j).1.2.2.1 = (fpst cA (fp u) k j).1.2.2.1 ∧ fp (pst u k j).1.2.2.2 = (fpst cA (fp u) k j).1.2.2.2
  | 0 => ⟨rfl, by show fp 1 = 1; decide +kernel, by show fp 0 = 0; decide +kernel, rfl, by show fp 1 = 1; decide +kernel⟩
  | j + 1 => by
    obtain ⟨h0, h1, h2, h3, h4⟩ := fp_pst u k j
    simp only [pst, fpst]
    generalize pst u k j = s at *
    generalize fpst cA (fp u) k j = t at *
    obtain ⟨⟨a, b, c, d⟩, q⟩ := s
    obtain ⟨⟨a', b', c', d'⟩, q'⟩ := t
    simp only at h0 h1 h2 h3 h4
    subst h0 h1 h2 h3 h4
    have e : fp 121666 = cA + 1 := by decide +kernel
    refine ⟨trivial, ?_, ?_, ?_, ?_⟩ <;> simp only [pstep, fstep, fp_add, fp_sub, fp_mul, fp_sel]
    rw [e]
    generalize cA = c
    grind

theorem fp_pout (u : Int) (k : Nat → Bool) : fp (pout u k) = fout iv cA (fp u) k := by
  obtain ⟨h0, h1, h2, h3, h4⟩ := fp_pst u k 255
  unfold pout fout
  simp only
  rw [fp_mul, fp_zp, fp_sel, fp_sel, h0, h1, h2, h3, h4]

theorem clamped {f : Nat → Int} (hf : Byt f) : Clamped (kb f) := by
  have h0 := hf 0
  have h31 := hf 31
  refine ⟨?_, ?_, ?_, ?_⟩ <;> unfold kb cl <;> simp <;> omega

/-- What the ladder tells in the field. -/
def fl (f g : Nat → Int) : Fp := fout iv cA (fp (unum g)) (kb f)

theorem byteOf_num {R : Int} (h0 : 0 ≤ R) (h1 : R < 2 ^ 256) : leN (byteOf R) 32 0 = R := by
  unfold byteOf
  simp only [leN]
  omega

theorem lad_eq (f g : Nat → Int) : lad f g = byteOf ((fl f g).val : Int) := by
  unfold lad fl
  rw [← fp_pout, fp_val]; rfl

theorem lad_byt (f g : Nat → Int) : Byt (lad f g) := byteOf_byt _

theorem unum_lad (f g : Nat → Int) : unum (lad f g) = ((fl f g).val : Int) := by
  have h := (fl f g).isLt
  unfold P at h
  unfold unum
  rw [lad_eq, byteOf_num (by omega) (by omega)]
  omega

theorem fp_nat (a : Fp) : fp ((a.val : Nat) : Int) = a := by
  apply Fin.ext
  have h := a.isLt
  have h2 := fp_val ((a.val : Nat) : Int)
  unfold P at h
  omega

theorem fp_lad (f g : Nat → Int) : fp (unum (lad f g)) = fl f g := by rw [unum_lad, fp_nat]

/-- The ladder's bytes are nought where the field's number is. -/
theorem lad_zero {f g : Nat → Int} (h : fl f g = 0) : lad f g = fun _ => 0 := by
  rw [lad_eq, h]; funext j; show (0 : Int) / 2 ^ (8 * j) % 256 = 0; simp

theorem lad_ne {f g : Nat → Int} (h : fl f g ≠ 0) : bvals (lad f g) ≠ bvals (fun _ => 0) := by
  intro he
  apply h
  have e : leN (lad f g) 32 0 = leN (fun _ => 0) 32 0 := by
    have hj : ∀ j, j < 32 → lad f g j = 0 := by
      intro j hj
      have := congrArg (fun l : List Value => l[j]?) he
      simp [bvals, hj] at this
      exact this
    have ext : ∀ n k, k + n ≤ 32 → leN (lad f g) n k = leN (fun _ => 0) n k := by
      intro n
      induction n with
      | zero => intro k _; rfl
      | succ n ih => intro k hk; show lad f g k + 256 * leN (lad f g) n (k + 1) = 0 + 256 * leN (fun _ => 0) n (k + 1); rw [hj k (by omega), ih (k + 1) (by omega)]
    exact ext 32 0 (by decide)
  have z : leN (fun _ => (0 : Int)) 32 0 = 0 := by decide
  have u : unum (lad f g) = 0 := by unfold unum; rw [e, z]; rfl
  rw [unum_lad] at u
  apply Fin.ext
  show (fl f g).val = 0
  omega

theorem lad_congr {f f' g g' : Nat → Int} (hk : kb f = kb f') (hg : fp (unum g) = fp (unum g')) : lad f g = lad f' g' := by
  rw [lad_eq, lad_eq]; unfold fl; rw [hk, hg]

theorem lad_turns (a b g : Nat → Int) : lad a (lad b g) = lad b (lad a g) := by
  have e : fl a (lad b g) = fl b (lad a g) := by
    unfold fl; rw [fp_lad, fp_lad]; unfold fl; exact turns _ _ _
  rw [lad_eq a, lad_eq b (lad a g), e]

/-- The base point's bytes. -/
def nine (j : Nat) : Int := if j = 0 then 9 else 0
theorem nine_byt : Byt nine := by intro j; unfold nine; split <;> omega
theorem unum_nine : unum nine = 9 := by decide +kernel
theorem fl_nine {f : Nat → Int} (hf : Byt f) : fl f nine ≠ 0 := by
  unfold fl; rw [unum_nine, show fp 9 = 9 by decide +kernel]; exact pub_ne (clamped hf)
theorem lad_nine {f : Nat → Int} (hf : Byt f) : bvals (lad f nine) ≠ bvals (fun _ => 0) := lad_ne (fl_nine hf)
end Go.Proofs.YtflmkgecgijncaaDoor
