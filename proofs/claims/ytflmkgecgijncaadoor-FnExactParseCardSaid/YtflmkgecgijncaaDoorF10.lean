/-
  Mult32, Set, One.
-/
import Derived.Test.YtflmkgecgijncaaDoorF9
namespace Go.Proofs.YtflmkgecgijncaaDoor
open Go.RowKit Go.Shelf

/-- feOne as it is laid: a pointer to the element 1. -/
def One5 (w : World) : Prop := ∃ pb po : Nat, w.cell? ⟨0, 0, none⟩ = some (.pointer (some ⟨pb, po, none⟩)) ∧ Limbs w pb po 1 0 0 0 0

theorem One5.below {w w' : World} (h : One5 w) (hb : Below w.heap.size w w') : One5 w' := by
  obtain ⟨pb, po, h0, h1, h2, h3, h4, h5⟩ := h
  have l0 := World.block_lt_of_cell? _ _ h0
  have l1 := World.block_lt_of_cell? _ _ h1
  exact ⟨pb, po, (hb.cell l0).trans h0, (hb.cell l1).trans h1, (hb.cell (p := ⟨pb, po + 1, none⟩) l1).trans h2, (hb.cell (p := ⟨pb, po + 2, none⟩) l1).trans h3, (hb.cell (p := ⟨pb, po + 3, none⟩) l1).trans h4, (hb.cell (p := ⟨pb, po + 4, none⟩) l1).trans h5⟩

theorem did_put5 {w : World} {b o : Nat} {X : Int} {a0 a1 a2 a3 a4 : Int} {v : Value} (hr : Room w b o) (ht : Tight a0 a1 a2 a3 a4) (hc : Cg (val a0 a1 a2 a3 a4) X) : Did w b o X v (.returned v) (put5 w b o a0 a1 a2 a3 a4) :=
  ⟨rfl, ⟨⟨a0, a1, a2, a3, a4, put5_limbs hr.1, ht, hc⟩, (put5_upd w b o a0 a1 a2 a3 a4).free hr.lt hr.2⟩, put5_upd w b o a0 a1 a2 a3 a4⟩

set_option maxRecDepth 100000 in
set_option maxHeartbeats 400000 in
theorem Set_any (bv ov ba oa : Nat) (A : Int) (w : World) (ha : E5 w ba oa A) (hv : Room w bv ov) :
    Calls Tryd.prog 64 #[.pointer (some ⟨bv, ov, none⟩), .pointer (some ⟨ba, oa, none⟩)] w (Did w bv ov A (.pointer (some ⟨bv, ov, none⟩))) := by
  obtain ⟨⟨a0, a1, a2, a3, a4, ⟨ca0, ca1, ca2, ca3, ca4⟩, ta, ca⟩, -⟩ := ha
  have HV : Hid (Room w bv ov) := hid hv
  obtain ⟨⟨z0, z1, z2, z3, z4, g0, g1, g2, g3, g4⟩, f0, f1, f2, f3, f4⟩ := hv
  have T : Hid (Tight a0 a1 a2 a3 a4 ∧ Cg (val a0 a1 a2 a3 a4) A) := hid ⟨ta, ca⟩
  clear ta ca
  go_enter Tryd.func64, Tryd.ntmps64
  go_wp2_with fail
  go_ret
  exact did_put5 HV.out T.out.1 T.out.2

set_option maxRecDepth 100000 in
set_option maxHeartbeats 400000 in
theorem One_any (bv ov : Nat) (w : World) (h1 : One5 w) (hv : Room w bv ov) :
    Calls Tryd.prog 63 #[.pointer (some ⟨bv, ov, none⟩)] w (Did w bv ov 1 (.pointer (some ⟨bv, ov, none⟩))) := by
  obtain ⟨pb, po, p0, c0, c1, c2, c3, c4⟩ := h1
  have HV : Hid (Room w bv ov) := hid hv
  obtain ⟨⟨z0, z1, z2, z3, z4, g0, g1, g2, g3, g4⟩, f0, f1, f2, f3, f4⟩ := hv
  go_enter Tryd.func63, Tryd.ntmps63
  go_wp2_with fail
  go_ret
  exact did_put5 HV.out ⟨by decide, by decide, by decide, by decide, by decide⟩ ⟨0, by decide⟩

def Res51 (w : World) (v : Int) (e : Ending) (w' : World) : Prop :=
  ∃ lo hi : Int, e = .returned (.tuple #[.int .u64 lo, .int .u64 hi]) ∧ (0 ≤ lo ∧ lo < 2251799813685248) ∧ (0 ≤ hi ∧ hi < 8598323200) ∧ Hid (hi * 2251799813685248 + lo = v) ∧ w = w'

set_option maxHeartbeats 400000 in
theorem mul51_any (a y : Int) (w : World) (h0 : 0 ≤ a) (h1 : a < 4503599627370496) (h2 : 0 ≤ y) (h3 : y < 4294967296) :
    Calls Tryd.prog 80 #[.int .u64 a, .int .u32 y] w (Res51 w (a * y)) := by
  have hb : Hid (0 ≤ a * y ∧ a * y ≤ 4503599627370496 * 4294967296) := hid ⟨Int.mul_nonneg h0 h2, Int.mul_le_mul (Int.le_of_lt h1) (Int.le_of_lt h3) h2 (by decide)⟩
  go_enter Tryd.func80, Tryd.ntmps80
  go_wp2_with fail
  refine (mul64 a y _ h0 (by omega) h2 (by omega)).mono ?_
  rintro e w1 ⟨mh, ml, rfl, ⟨q0, q1⟩, ⟨q2, q3⟩, H, rfl⟩
  have hmh : mh < 2097152 := by have := H.out; have := hb.out; omega
  have A := and51 ml q2 q3
  have k := or_u64 13 (by decide) (mh * 8192) (ml / 2251799813685248) (by omega) (by omega) (by omega) (by omega) (by omega)
  go_wp2_with fail
  go_ret2
  exact ⟨_, _, rfl, ⟨by omega, by omega⟩, ⟨by omega, by have := H.out; have := hb.out; omega⟩, hid (by have := H.out; omega), rfl⟩

theorem mult_val (x0 x1 x2 x3 x4 y l0 l1 l2 l3 l4 h0 h1 h2 h3 h4 : Int) (e0 : h0 * 2251799813685248 + l0 = x0 * y) (e1 : h1 * 2251799813685248 + l1 = x1 * y) (e2 : h2 * 2251799813685248 + l2 = x2 * y)
    (e3 : h3 * 2251799813685248 + l3 = x3 * y) (e4 : h4 * 2251799813685248 + l4 = x4 * y) : Cg (val (l0 + 19 * h4) (l1 + h0) (l2 + h1) (l3 + h2) (l4 + h3)) (val x0 x1 x2 x3 x4 * y) := by
  refine ⟨h4, ?_⟩
  have e : val x0 x1 x2 x3 x4 * y = val (x0 * y) (x1 * y) (x2 * y) (x3 * y) (x4 * y) := by unfold val; grind
  rw [e, ← e0, ← e1, ← e2, ← e3, ← e4]
  unfold val pI
  omega

set_option maxRecDepth 100000 in
set_option maxHeartbeats 1000000 in
theorem Mult32_any (bv ov ba oa : Nat) (A y : Int) (w : World) (ha : E5 w ba oa A) (hv : Room w bv ov) (y0 : 0 ≤ y) (y1 : y < 4294967296) :
    Calls Tryd.prog 70 #[.pointer (some ⟨bv, ov, none⟩), .pointer (some ⟨ba, oa, none⟩), .int .u32 y] w (Did w bv ov (A * y) (.pointer (some ⟨bv, ov, none⟩))) := by
  obtain ⟨⟨a0, a1, a2, a3, a4, ⟨ca0, ca1, ca2, ca3, ca4⟩, ⟨⟨la0, ua0⟩, ⟨la1, ua1⟩, ⟨la2, ua2⟩, ⟨la3, ua3⟩, ⟨la4, ua4⟩⟩, ca⟩, -⟩ := ha
  have HV : Hid (Room w bv ov) := hid hv
  obtain ⟨⟨z0, z1, z2, z3, z4, g0, g1, g2, g3, g4⟩, f0, f1, f2, f3, f4⟩ := hv
  have C : Hid (Cg (val a0 a1 a2 a3 a4) A) := hid ca
  clear ca
  go_enter Tryd.func70, Tryd.ntmps70
  go_wp2_with fail
  refine (mul51_any a0 y _ la0 (by omega) y0 y1).mono ?_
  rintro e w1 ⟨l0, h0, rfl, ⟨p0a, p0b⟩, ⟨q0a, q0b⟩, H0, rfl⟩
  go_wp2_with fail
  refine (mul51_any a1 y _ la1 (by omega) y0 y1).mono ?_
  rintro e w1 ⟨l1, h1, rfl, ⟨p1a, p1b⟩, ⟨q1a, q1b⟩, H1, rfl⟩
  go_wp2_with fail
  refine (mul51_any a2 y _ la2 (by omega) y0 y1).mono ?_
  rintro e w1 ⟨l2, h2, rfl, ⟨p2a, p2b⟩, ⟨q2a, q2b⟩, H2, rfl⟩
  go_wp2_with fail
  refine (mul51_any a3 y _ la3 (by omega) y0 y1).mono ?_
  rintro e w1 ⟨l3, h3, rfl, ⟨p3a, p3b⟩, ⟨q3a, q3b⟩, H3, rfl⟩
  go_wp2_with fail
  refine (mul51_any a4 y _ la4 (by omega) y0 y1).mono ?_
  rintro e w1 ⟨l4, h4, rfl, ⟨p4a, p4b⟩, ⟨q4a, q4b⟩, H4, rfl⟩
  go_wp2_with fail
  go_ret
  refine did_put5 HV.out ⟨⟨by omega, by omega⟩, ⟨by omega, by omega⟩, ⟨by omega, by omega⟩, ⟨by omega, by omega⟩, ⟨by omega, by omega⟩⟩ ((mult_val _ _ _ _ _ y _ _ _ _ _ _ _ _ _ _ H0.out H1.out H2.out H3.out H4.out).trans (C.out.mul (Cg.refl y)))

theorem mask0 (w : World) : Calls Tryd.prog 76 #[.int .i64 0] w fun e w' => e = .returned (.int .u64 0) ∧ w = w' := by
  go_enter Tryd.func76, Tryd.ntmps76
  go_wp2_with fail
  go_ret
  exact ⟨congrArg (fun z => Ending.returned (.int .u64 z)) (by decide +kernel), rfl⟩
theorem mask1 (w : World) : Calls Tryd.prog 76 #[.int .i64 1] w fun e w' => e = .returned (.int .u64 18446744073709551615) ∧ w = w' := by
  go_enter Tryd.func76, Tryd.ntmps76
  go_wp2_with fail
  go_ret
  exact ⟨congrArg (fun z => Ending.returned (.int .u64 z)) (by decide +kernel), rfl⟩

theorem xor_u64 (a b : Int) (ha : 0 ≤ a) (ha' : a < 18446744073709551616) (hb : 0 ≤ b) (hb' : b < 18446744073709551616) :
    ∃ t : Int, bits .xor .u64 a b = t ∧ 0 ≤ t ∧ t < 18446744073709551616 ∧ bits .xor .u64 a t = b ∧ bits .xor .u64 b t = a := by
  obtain ⟨a, rfl⟩ := Int.eq_ofNat_of_zero_le ha
  obtain ⟨b, rfl⟩ := Int.eq_ofNat_of_zero_le hb
  have hx : a ^^^ b < 18446744073709551616 := Nat.xor_lt_two_pow (n := 64) (by omega) (by omega)
  refine ⟨((a ^^^ b : Nat) : Int), bits_xor_u64_nat a b (by omega) (by omega), by omega, by omega, ?_, ?_⟩
  · rw [bits_xor_u64_nat a _ (by omega) hx, ← Nat.xor_assoc, Nat.xor_self, Nat.zero_xor]
  · rw [bits_xor_u64_nat b _ (by omega) hx, Nat.xor_comm a b, ← Nat.xor_assoc, Nat.xor_self, Nat.zero_xor]

theorem and_all (t : Int) (h : 0 ≤ t) (h' : t < 18446744073709551616) : bits .and .u64 18446744073709551615 t = t := by
  obtain ⟨t, rfl⟩ := Int.eq_ofNat_of_zero_le h
  have e := bits_and_u64_nat 18446744073709551615 t (by omega) (by omega)
  have e2 : (18446744073709551615 &&& t : Nat) = t := by
    rw [Nat.and_comm, show (18446744073709551615 : Nat) = 2 ^ 64 - 1 from rfl, Nat.and_two_pow_sub_one_eq_mod]; omega
  rw [e2] at e; exact e

theorem and_none (t : Int) (h : 0 ≤ t) (h' : t < 18446744073709551616) : bits .and .u64 0 t = 0 := by
  obtain ⟨t, rfl⟩ := Int.eq_ofNat_of_zero_le h
  have e := bits_and_u64_nat 0 t (by omega) (by omega)
  rw [Nat.zero_and] at e; exact e

theorem xor_none (a : Int) (h : 0 ≤ a) (h' : a < 18446744073709551616) : bits .xor .u64 a 0 = a := by
  obtain ⟨a, rfl⟩ := Int.eq_ofNat_of_zero_le h
  have e := bits_xor_u64_nat a 0 (by omega) (by omega)
  rw [Nat.xor_zero] at e; exact e

/-- The words of Swap at one limb: the mask m changes a and b to p and q by x and t. -/
structure Sw (m a b p q x t : Int) : Prop where
  e1 : bits .xor .u64 a b = x
  e2 : bits .and .u64 m x = t
  e3 : bits .xor .u64 a t = p
  e4 : bits .xor .u64 b t = q

theorem sw1 (a b : Int) (ha : 0 ≤ a) (ha' : a < 18446744073709551616) (hb : 0 ≤ b) (hb' : b < 18446744073709551616) : ∃ x t, Sw 18446744073709551615 a b b a x t := by
  obtain ⟨t, h1, h2, h3, h4, h5⟩ := xor_u64 a b ha ha' hb hb'
  exact ⟨t, t, h1, and_all t h2 h3, h4, h5⟩
theorem sw0 (a b : Int) (ha : 0 ≤ a) (ha' : a < 18446744073709551616) (hb : 0 ≤ b) (hb' : b < 18446744073709551616) : ∃ x t, Sw 0 a b a b x t := by
  obtain ⟨x, h1, h2, h3, h4, h5⟩ := xor_u64 a b ha ha' hb hb'
  exact ⟨x, 0, h1, and_none x h2 h3, xor_none a ha ha', xor_none b hb hb'⟩

end Go.Proofs.YtflmkgecgijncaaDoor
