/-
  Numbers as eight digits of 32 bits: plain arithmetic.
-/
import Derived.Test.YtflmkgecgijncaaDoorF24
namespace Go.Proofs.YtflmkgecgijncaaDoor
open Go.RowKit Go.Shelf

/-- 2^32 to the k. -/
def bp (k : Nat) : Int := 4294967296 ^ k
theorem bp_zero : bp 0 = 1 := rfl
theorem bp_succ (k : Nat) : bp (k + 1) = 4294967296 * bp k := by unfold bp; rw [Int.pow_succ, Int.mul_comm]
theorem bp_pos (k : Nat) : 0 < bp k := Int.pow_pos (by decide)
theorem bp_add (i k : Nat) : bp (i + k) = bp i * bp k := by unfold bp; rw [Int.pow_add]
theorem bp_eight : bp 8 = 115792089237316195423570985008687907853269984665640564039457584007913129639936 := by decide

/-- Digit j of a number. -/
def dg (V : Int) (j : Nat) : Int := V / bp j % 4294967296
/-- Digits. -/
def Dig (f : Nat → Int) : Prop := ∀ j, 0 ≤ f j ∧ f j < 4294967296
/-- The number of the first k digits. -/
def nd (f : Nat → Int) : Nat → Int
  | 0 => 0
  | k + 1 => nd f k + f k * bp k

theorem nd_zero (f : Nat → Int) : nd f 0 = 0 := rfl
theorem nd_succ (f : Nat → Int) (k : Nat) : nd f (k + 1) = nd f k + f k * bp k := rfl

theorem dg_dig (V : Int) : Dig (dg V) := fun j => by unfold dg; omega

theorem nd_congr {f g : Nat → Int} : ∀ {k : Nat}, (∀ j, j < k → f j = g j) → nd f k = nd g k
  | 0, _ => rfl
  | k + 1, h => by rw [nd_succ, nd_succ, nd_congr (fun j hj => h j (by omega)), h k (by omega)]

theorem nd_lt {f : Nat → Int} (h : Dig f) : ∀ k, 0 ≤ nd f k ∧ nd f k < bp k
  | 0 => ⟨Int.le_refl 0, by rw [nd_zero, bp_zero]; decide⟩
  | k + 1 => by
    obtain ⟨h0, h1⟩ := nd_lt h k
    obtain ⟨d0, d1⟩ := h k
    have hp := bp_pos k
    rw [nd_succ, bp_succ]
    have a0 : 0 ≤ f k * bp k := Int.mul_nonneg d0 (Int.le_of_lt hp)
    have a1 : f k * bp k ≤ 4294967295 * bp k := Int.mul_le_mul_of_nonneg_right (by omega) (Int.le_of_lt hp)
    exact ⟨by omega, by omega⟩

theorem nd_dg (V : Int) : ∀ k, nd (dg V) k = V % bp k
  | 0 => by rw [nd_zero, bp_zero]; omega
  | k + 1 => by
    rw [nd_succ, nd_dg V k, bp_succ]
    unfold dg
    have hp := bp_pos k
    rw [Int.mul_comm 4294967296 (bp k), ← Int.emod_add_mul_ediv (V % (bp k * 4294967296)) (bp k)]
    rw [Int.emod_emod_of_dvd _ (Int.dvd_mul_right ..)]
    congr 1
    rw [Int.mul_comm]
    congr 1
    rw [Int.emod_def V (bp k * 4294967296), ← Int.ediv_ediv_of_nonneg (Int.le_of_lt hp), Int.sub_eq_add_neg, Int.mul_assoc, ← Int.mul_neg, Int.add_mul_ediv_left _ _ (Int.ne_of_gt hp)]
    omega

theorem dg_nd {f : Nat → Int} (h : Dig f) {j : Nat} : ∀ {n : Nat}, j < n → dg (nd f n) j = f j
  | 0, hj => by omega
  | n + 1, hj => by
    by_cases e : j = n
    · subst e
      unfold dg
      rw [nd_succ, Int.add_mul_ediv_right _ _ (Int.ne_of_gt (bp_pos j)), Int.ediv_eq_zero_of_lt (nd_lt h j).1 (nd_lt h j).2]
      have := h j; omega
    · have ih := dg_nd h (n := n) (j := j) (by omega)
      rw [← ih]
      unfold dg
      rw [nd_succ]
      obtain ⟨m, rfl⟩ : ∃ m, n = j + 1 + m := ⟨n - j - 1, by omega⟩
      have e : f (j + 1 + m) * bp (j + 1 + m) = bp j * (4294967296 * (f (j + 1 + m) * bp m)) := by rw [bp_add, bp_succ]; grind
      rw [e, Int.add_mul_ediv_left _ _ (Int.ne_of_gt (bp_pos j))]
      omega

/-- n digits as values. -/
def nvals (n : Nat) (f : Nat → Int) : List Value := (List.range n).map (fun j => .int .u64 (f j))
theorem nvals_get {n : Nat} (f : Nat → Int) (j : Nat) (hj : j < n) : (nvals n f)[j]? = some (.int .u64 (f j)) := by
  unfold nvals
  rw [List.getElem?_map, List.getElem?_range hj]; rfl
theorem nvals_len (n : Nat) (f : Nat → Int) : (nvals n f).length = n := by simp [nvals]
theorem nvals_congr {n : Nat} {f g : Nat → Int} (h : ∀ j, j < n → f j = g j) : nvals n f = nvals n g := by
  unfold nvals
  apply List.map_congr_left
  intro j hj
  rw [h j (List.mem_range.1 hj)]
theorem nvals_dg {f : Nat → Int} {n : Nat} (h : Dig f) {V : Int} (hV : nd f n = V) : nvals n f = nvals n (dg V) := by
  subst hV; exact nvals_congr fun j hj => (dg_nd h hj).symm

theorem nvals_upd (n : Nat) (f : Nat → Int) (i : Nat) (z : Int) : (nvals n f).toArray.setIfInBounds i (.int .u64 z) = (nvals n (upd f i z)).toArray := by
  rw [List.setIfInBounds_toArray]
  congr 1
  apply List.ext_getElem?
  intro j
  rw [List.getElem?_set]
  by_cases hj : j < n
  · rw [nvals_get _ j hj, nvals_get _ j hj]
    unfold upd
    by_cases h : i = j
    · subst h; simp [nvals_len, hj]
    · rw [if_neg h, if_neg (fun h' => h h'.symm)]
  · have l1 : (nvals n f)[j]? = none := List.getElem?_eq_none (by rw [nvals_len]; omega)
    have l2 : (nvals n (upd f i z))[j]? = none := List.getElem?_eq_none (by rw [nvals_len]; omega)
    rw [l1, l2]
    split
    · rw [if_neg]; rw [nvals_len]; omega
    · rfl

theorem Dig.upd {f : Nat → Int} (hf : Dig f) {i : Nat} {z : Int} (h0 : 0 ≤ z) (h1 : z < 4294967296) : Dig (upd f i z) := by
  intro j; unfold YtflmkgecgijncaaDoor.upd; split
  · exact ⟨h0, h1⟩
  · exact hf j

theorem nd_upd (f : Nat → Int) {i k : Nat} (z : Int) (h : k ≤ i) : nd (upd f i z) k = nd f k :=
  nd_congr fun j hj => by unfold upd; rw [if_neg (by omega)]
theorem nd_upd_succ (f : Nat → Int) (k : Nat) (z : Int) : nd (upd f k z) (k + 1) = nd f k + z * bp k := by
  rw [nd_succ, nd_upd f z (Nat.le_refl _)]; unfold upd; rw [if_pos rfl]

/-- X is a number of eight digits. -/
def IsN (X : Array Value) (V : Int) : Prop := X = (nvals 8 (dg V)).toArray ∧ 0 ≤ V ∧ V < bp 8

/-- A round of a sum. -/
theorem carry_step (c B : Int) (h : B = 4294967296) : c = B * (c / B) + c % B := by subst h; omega
end Go.Proofs.YtflmkgecgijncaaDoor
