/-
  Numbers of five limbs modulo 2^255 - 19: plain arithmetic.
-/
import Derived.Test.YtflmkgecgijncaaDoorF2
namespace Go.Proofs.YtflmkgecgijncaaDoor
open Go.RowKit

/-- a is b modulo 2^255 - 19. -/
def Cg (a b : Int) : Prop := ∃ k : Int, a + pI * k = b

theorem Cg.refl (a : Int) : Cg a a := ⟨0, by simp⟩
theorem Cg.symm {a b : Int} (h : Cg a b) : Cg b a := by obtain ⟨k, h⟩ := h; exact ⟨-k, by grind⟩
theorem Cg.trans {a b c : Int} (h : Cg a b) (g : Cg b c) : Cg a c := by
  obtain ⟨k, h⟩ := h; obtain ⟨j, g⟩ := g; exact ⟨k + j, by grind⟩
theorem Cg.mul {a b c d : Int} (h : Cg a b) (g : Cg c d) : Cg (a * c) (b * d) := by
  obtain ⟨k, h⟩ := h; obtain ⟨j, g⟩ := g; exact ⟨a * j + k * c + k * j * pI, by subst h g; grind⟩
theorem Cg.add {a b c d : Int} (h : Cg a b) (g : Cg c d) : Cg (a + c) (b + d) := by
  obtain ⟨k, h⟩ := h; obtain ⟨j, g⟩ := g; exact ⟨k + j, by grind⟩
theorem Cg.sub {a b c d : Int} (h : Cg a b) (g : Cg c d) : Cg (a - c) (b - d) := by
  obtain ⟨k, h⟩ := h; obtain ⟨j, g⟩ := g; exact ⟨k - j, by grind⟩
theorem Cg.pow {a b : Int} (h : Cg a b) : ∀ n : Nat, Cg (a ^ n) (b ^ n)
  | 0 => by rw [Int.pow_zero, Int.pow_zero]; exact Cg.refl _
  | n + 1 => by rw [Int.pow_succ, Int.pow_succ]; exact (h.pow n).mul h

theorem mul_val (a0 a1 a2 a3 a4 b0 b1 b2 b3 b4 : Int) :
    Cg (val (a0 * b0 + 19 * (a1 * b4) + 19 * (a2 * b3) + 19 * (a3 * b2) + 19 * (a4 * b1))
          (a0 * b1 + a1 * b0 + 19 * (a2 * b4) + 19 * (a3 * b3) + 19 * (a4 * b2))
          (a0 * b2 + a1 * b1 + a2 * b0 + 19 * (a3 * b4) + 19 * (a4 * b3))
          (a0 * b3 + a1 * b2 + a2 * b1 + a3 * b0 + 19 * (a4 * b4)) (a0 * b4 + a1 * b3 + a2 * b2 + a3 * b1 + a4 * b0))
      (val a0 a1 a2 a3 a4 * val b0 b1 b2 b3 b4) := by
  refine ⟨val (a1 * b4 + a2 * b3 + a3 * b2 + a4 * b1) (a2 * b4 + a3 * b3 + a4 * b2) (a3 * b4 + a4 * b3) (a4 * b4) 0, ?_⟩
  unfold val pI
  grind

theorem sq_val (a0 a1 a2 a3 a4 : Int) :
    Cg (val (a0 * a0 + 38 * (a1 * a4) + 38 * (a2 * a3)) (a0 * 2 * a1 + 38 * (a2 * a4) + 19 * (a3 * a3)) (a0 * 2 * a2 + a1 * a1 + 38 * (a3 * a4))
          (a0 * 2 * a3 + a1 * 2 * a2 + 19 * (a4 * a4)) (a0 * 2 * a4 + a1 * 2 * a3 + a2 * a2))
      (val a0 a1 a2 a3 a4 * val a0 a1 a2 a3 a4) := by
  refine ⟨val (2 * (a1 * a4) + 2 * (a2 * a3)) (2 * (a2 * a4) + a3 * a3) (2 * (a3 * a4)) (a4 * a4) 0, ?_⟩
  unfold val pI
  grind

theorem sq_step {A z : Int} {k : Nat} (h : Cg z (A ^ (2 ^ k))) : Cg (z * z) (A ^ (2 ^ (k + 1))) := by
  have e : A ^ (2 ^ (k + 1)) = A ^ (2 ^ k) * A ^ (2 ^ k) := by rw [← Int.pow_add, Nat.pow_succ]; congr 1; omega
  rw [e]; exact h.mul h

theorem Wrote.cg {w : World} {b o : Nat} {V V' : Int} {v : Value} {e : Ending} {w' : World} (h : Wrote w b o V v e w') (g : Cg V V') : Wrote w b o V' v e w' := by
  obtain ⟨c0, c1, c2, c3, c4, k, W, h1, h2, h3, h4, h5⟩ := h
  obtain ⟨j, hj⟩ := Cg.trans ⟨k, h5⟩ g
  exact ⟨c0, c1, c2, c3, c4, j, W, h1, h2, h3, h4, hj⟩
end Go.Proofs.YtflmkgecgijncaaDoor
