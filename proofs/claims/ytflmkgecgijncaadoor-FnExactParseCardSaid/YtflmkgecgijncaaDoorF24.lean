/-
  A byte of an array is written.
-/
import Derived.Test.YtflmkgecgijncaaDoorF23
namespace Go.Proofs.YtflmkgecgijncaaDoor
open Go.RowKit Go.Shelf

def upd (f : Nat → Int) (i : Nat) (z : Int) (j : Nat) : Int := if j = i then z else f j

theorem Byt.upd {f : Nat → Int} (hf : Byt f) {i : Nat} {z : Int} (hz : 0 ≤ z ∧ z ≤ 255) : Byt (upd f i z) := by
  intro j; unfold YtflmkgecgijncaaDoor.upd; split
  · exact hz
  · exact hf j

theorem bvals_upd (f : Nat → Int) (i : Nat) (z : Int) : (bvals f).toArray.setIfInBounds i (.int .u8 z) = (bvals (upd f i z)).toArray := by
  rw [List.setIfInBounds_toArray]
  congr 1
  apply List.ext_getElem?
  intro j
  rw [List.getElem?_set]
  by_cases hj : j < 32
  · rw [bvals_get _ j hj, bvals_get _ j hj]
    unfold upd
    by_cases h : i = j
    · subst h; simp [bvals_len, hj]
    · rw [if_neg h, if_neg (fun h' => h h'.symm)]
  · have l1 : (bvals f)[j]? = none := List.getElem?_eq_none (by rw [bvals_len]; omega)
    have l2 : (bvals (upd f i z))[j]? = none := List.getElem?_eq_none (by rw [bvals_len]; omega)
    rw [l1, l2]
    split
    · rw [if_neg]; rw [bvals_len]; omega
    · rfl

theorem Arr.set {w : World} {b : Nat} {f : Nat → Int} (h : Arr w b f) (i : Nat) (z : Int) : Arr (w.setCell ⟨b, i, none⟩ (.int .u8 z)) b (upd f i z) := by
  unfold Arr at *
  simp only [World.setCell, Array.getElem?_modify, h, if_true, Option.map_some, ← bvals_upd]
  rfl

theorem xor128 (z : Int) (h0 : 0 ≤ z) (h1 : z ≤ 255) : bits .xor .u8 z 128 = z + 128 ∧ z < 128 ∨ bits .xor .u8 z 128 = z - 128 ∧ 128 ≤ z := by
  have k : ∀ n : Fin 256, bits .xor .u8 ((n.val : Nat) : Int) 128 = (n.val : Int) + 128 ∧ (n.val : Int) < 128 ∨ bits .xor .u8 ((n.val : Nat) : Int) 128 = (n.val : Int) - 128 ∧ 128 ≤ (n.val : Int) := by decide +kernel
  obtain ⟨n, rfl⟩ := Int.eq_ofNat_of_zero_le h0
  exact k ⟨n, by omega⟩
end Go.Proofs.YtflmkgecgijncaaDoor
