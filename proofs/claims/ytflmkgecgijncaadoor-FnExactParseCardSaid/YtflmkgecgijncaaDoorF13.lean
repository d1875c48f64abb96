/-
  reduce: the limbs of the number below 2^255 - 19. The walk was printed by gen_red.py.
-/
import Derived.Test.YtflmkgecgijncaaDoorF12
namespace Go.Proofs.YtflmkgecgijncaaDoor
open Go.RowKit Go.Shelf

/-- The words as reduce writes them, in its order. -/
def redw (w : World) (b o : Nat) (s0 s1 s2 s3 s4 n0 n1 n2 n3 n4 : Int) : World :=
  (((((((((w.setCell ⟨b, o, none⟩ (.int .u64 s0)).setCell ⟨b, o + 1, none⟩ (.int .u64 s1)).setCell ⟨b, o, none⟩ (.int .u64 n0)).setCell ⟨b, o + 2, none⟩ (.int .u64 s2)).setCell ⟨b, o + 1, none⟩ (.int .u64 n1)).setCell
    ⟨b, o + 3, none⟩ (.int .u64 s3)).setCell ⟨b, o + 2, none⟩ (.int .u64 n2)).setCell ⟨b, o + 4, none⟩ (.int .u64 s4)).setCell ⟨b, o + 3, none⟩ (.int .u64 n3)).setCell ⟨b, o + 4, none⟩ (.int .u64 n4)

theorem redw_limbs {w : World} {b o : Nat} {s0 s1 s2 s3 s4 n0 n1 n2 n3 n4 a0 a1 a2 a3 a4 : Int} (h : Limbs w b o a0 a1 a2 a3 a4) : Limbs (redw w b o s0 s1 s2 s3 s4 n0 n1 n2 n3 n4) b o n0 n1 n2 n3 n4 := by
  obtain ⟨h0, h1, h2, h3, h4⟩ := h
  have s0 : (w.cell? ⟨b, o, none⟩).isSome = true := by rw [h0]; rfl
  have s1 : (w.cell? ⟨b, o + 1, none⟩).isSome = true := by rw [h1]; rfl
  have s2 : (w.cell? ⟨b, o + 2, none⟩).isSome = true := by rw [h2]; rfl
  have s3 : (w.cell? ⟨b, o + 3, none⟩).isSome = true := by rw [h3]; rfl
  have s4 : (w.cell? ⟨b, o + 4, none⟩).isSome = true := by rw [h4]; rfl
  unfold redw
  refine ⟨?_, ?_, ?_, ?_, ?_⟩
  · rw [limbs_past (by omega), limbs_past (by omega), limbs_past (by omega), limbs_past (by omega), limbs_past (by omega), limbs_past (by omega), limbs_past (by omega)]; exact limbs_put (isSome_set (isSome_set s0)) rfl
  · rw [limbs_past (by omega), limbs_past (by omega), limbs_past (by omega), limbs_past (by omega), limbs_past (by omega)]; exact limbs_put (isSome_set (isSome_set (isSome_set (isSome_set s1)))) rfl
  · rw [limbs_past (by omega), limbs_past (by omega), limbs_past (by omega)]; exact limbs_put (isSome_set (isSome_set (isSome_set (isSome_set (isSome_set (isSome_set s2)))))) rfl
  · rw [limbs_past (by omega)]; exact limbs_put (isSome_set (isSome_set (isSome_set (isSome_set (isSome_set (isSome_set (isSome_set (isSome_set s3)))))))) rfl
  · exact limbs_put (isSome_set (isSome_set (isSome_set (isSome_set (isSome_set (isSome_set (isSome_set (isSome_set (isSome_set s4))))))))) rfl

theorem redw_upd (w : World) (b o : Nat) (s0 s1 s2 s3 s4 n0 n1 n2 n3 n4 : Int) : Upd w (redw w b o s0 s1 s2 s3 s4 n0 n1 n2 n3 n4) b o 5 := by
  unfold redw
  exact (((((((((((Upd.refl w b o 5).setCell (by omega) (by omega) _).setCell (by omega) (by omega) _).setCell (by omega) (by omega) _).setCell (by omega) (by omega) _).setCell (by omega) (by omega) _).setCell (by omega) (by omega) _).setCell (by omega) (by omega) _).setCell (by omega) (by omega) _).setCell (by omega) (by omega) _).setCell (by omega) (by omega) _)

/-- The limbs are those of the number below 2^255 - 19 that is V modulo it. -/
def Reduced (w : World) (b o : Nat) (V : Int) (v : Value) (e : Ending) (w' : World) : Prop :=
  ∃ n0 n1 n2 n3 n4 : Int, e = .returned v ∧ Limbs w' b o n0 n1 n2 n3 n4 ∧ Upd w w' b o 5 ∧ ((0 ≤ n0 ∧ n0 < 2251799813685248) ∧ (0 ≤ n1 ∧ n1 < 2251799813685248) ∧ (0 ≤ n2 ∧ n2 < 2251799813685248) ∧ (0 ≤ n3 ∧ n3 < 2251799813685248) ∧ (0 ≤ n4 ∧ n4 < 2251799813685248)) ∧ val n0 n1 n2 n3 n4 = V % pI

theorem red_fin {z e : Int} (hv : (z + 19) / 57896044618658097711785492504343953926634992332820282019728792003956564819968 = e)
    (hb : 0 ≤ z ∧ z < 57896044618658097711785492504343953926634992332820282019728792003956564819968 + 57896044618658097711785492504343953926634992332820282019728792003956564819900) :
    (z + 19 * e) % 57896044618658097711785492504343953926634992332820282019728792003956564819968 = z % pI := by
  unfold pI
  have : e = 0 ∨ e = 1 := by omega
  rcases this with rfl | rfl <;> omega

theorem reduced_mk {w W X : World} {b o : Nat} {V : Int} {v : Value} {d0 d1 d2 d3 d4 e0 e1 e2 e3 e4 g0 g1 g2 g3 : Int} (hl : Limbs W b o d0 d1 d2 d3 d4) (hu : Upd w W b o 5)
    (b0 : 0 ≤ d0) (c0 : d0 < 2251799813686000) (b1 : 0 ≤ d1) (c1 : d1 < 2251799813685250) (b2 : 0 ≤ d2) (c2 : d2 < 2251799813685250) (b3 : 0 ≤ d3) (c3 : d3 < 2251799813685250) (b4 : 0 ≤ d4) (c4 : d4 < 2251799813685250)
    (h0 : Hid ((d0 + 19) / 2251799813685248 = e0)) (h1 : Hid ((d1 + e0) / 2251799813685248 = e1)) (h2 : Hid ((d2 + e1) / 2251799813685248 = e2)) (h3 : Hid ((d3 + e2) / 2251799813685248 = e3)) (h4 : Hid ((d4 + e3) / 2251799813685248 = e4))
    (k0 : Hid ((d0 + 19 * e4) / 2251799813685248 = g0)) (k1 : Hid ((d1 + g0) / 2251799813685248 = g1)) (k2 : Hid ((d2 + g1) / 2251799813685248 = g2)) (k3 : Hid ((d3 + g2) / 2251799813685248 = g3))
    (hV : Cg (val d0 d1 d2 d3 d4) V)
    (hX : X = (redw W b o (d0 + 19 * e4) (d1 + g0) (d2 + g1) (d3 + g2) (d4 + g3) ((d0 + 19 * e4) % 2251799813685248) ((d1 + g0) % 2251799813685248) ((d2 + g1) % 2251799813685248) ((d3 + g2) % 2251799813685248) ((d4 + g3) % 2251799813685248)).drew.drew.drew.drew) :
    Reduced w b o V v (.returned v) X := by
  have hl' := redw_limbs (s0 := d0 + 19 * e4) (s1 := d1 + g0) (s2 := d2 + g1) (s3 := d3 + g2) (s4 := d4 + g3) (n0 := (d0 + 19 * e4) % 2251799813685248) (n1 := (d1 + g0) % 2251799813685248) (n2 := (d2 + g1) % 2251799813685248) (n3 := (d3 + g2) % 2251799813685248) (n4 := (d4 + g3) % 2251799813685248) hl
  have hu' := hu.trans (redw_upd W b o (d0 + 19 * e4) (d1 + g0) (d2 + g1) (d3 + g2) (d4 + g3) ((d0 + 19 * e4) % 2251799813685248) ((d1 + g0) % 2251799813685248) ((d2 + g1) % 2251799813685248) ((d3 + g2) % 2251799813685248) ((d4 + g3) % 2251799813685248))
  generalize redw W b o (d0 + 19 * e4) (d1 + g0) (d2 + g1) (d3 + g2) (d4 + g3) ((d0 + 19 * e4) % 2251799813685248) ((d1 + g0) % 2251799813685248) ((d2 + g1) % 2251799813685248) ((d3 + g2) % 2251799813685248) ((d4 + g3) % 2251799813685248) = Y at hX hl' hu'
  subst hX
  refine ⟨_, _, _, _, _, rfl, hl'.drew.drew.drew.drew, hu'.drew.drew.drew.drew, ⟨⟨by omega, by omega⟩, ⟨by omega, by omega⟩, ⟨by omega, by omega⟩, ⟨by omega, by omega⟩, ⟨by omega, by omega⟩⟩, ?_⟩
  obtain ⟨q, hq⟩ := hV
  have h0 := h0.out; have h1 := h1.out; have h2 := h2.out; have h3 := h3.out; have h4 := h4.out
  have k0 := k0.out; have k1 := k1.out; have k2 := k2.out; have k3 := k3.out
  clear hl hu hl' hu'
  have hv : (val d0 d1 d2 d3 d4 + 19) / 57896044618658097711785492504343953926634992332820282019728792003956564819968 = e4 := by unfold val; omega
  have hr : val ((d0 + 19 * e4) % 2251799813685248) ((d1 + g0) % 2251799813685248) ((d2 + g1) % 2251799813685248) ((d3 + g2) % 2251799813685248) ((d4 + g3) % 2251799813685248) = (val d0 d1 d2 d3 d4 + 19 * e4) % 57896044618658097711785492504343953926634992332820282019728792003956564819968 := by
    unfold val; omega
  have hb : 0 ≤ val d0 d1 d2 d3 d4 ∧ val d0 d1 d2 d3 d4 < 57896044618658097711785492504343953926634992332820282019728792003956564819968 + 57896044618658097711785492504343953926634992332820282019728792003956564819900 := by unfold val; omega
  rw [hr, ← hq, Int.add_mul_emod_self_left]
  exact red_fin hv hb

set_option maxRecDepth 100000 in
set_option maxHeartbeats 4000000 in
theorem reduce_any (bv ov : Nat) (V : Int) (w : World) (hv : E5 w bv ov V) :
    Calls Tryd.prog 98 #[.pointer (some ⟨bv, ov, none⟩)] w (Reduced w bv ov V (.pointer (some ⟨bv, ov, none⟩))) := by
  obtain ⟨⟨a0, a1, a2, a3, a4, la, ⟨⟨la0, ua0⟩, ⟨la1, ua1⟩, ⟨la2, ua2⟩, ⟨la3, ua3⟩, ⟨la4, ua4⟩⟩, ca⟩, fa⟩ := hv
  have HL : Hid (Limbs w bv ov a0 a1 a2 a3 a4 ∧ Free w bv ov) := hid ⟨la, fa⟩
  have CA : Hid (Cg (val a0 a1 a2 a3 a4) V) := hid ca
  clear la fa ca
  go_enter Tryd.func98, Tryd.ntmps98
  go_wp2_with fail
  refine (carryPropagate_any bv ov a0 a1 a2 a3 a4 _ HL.out.1 HL.out.2 la0 (by omega) la1 (by omega) la2 (by omega) la3 (by omega) la4 (by omega)).mono ?_
  rintro e W ⟨d0, d1, d2, d3, d4, rfl, hcy, hl, hu⟩
  have hcg := (carry1_tight hcy la0 (by omega) la1 (by omega) la2 (by omega) la3 (by omega) la4 (by omega)).2
  have bd : (0 ≤ d0 ∧ d0 < 2251799813686000) ∧ (0 ≤ d1 ∧ d1 < 2251799813685250) ∧ (0 ≤ d2 ∧ d2 < 2251799813685250) ∧ (0 ≤ d3 ∧ d3 < 2251799813685250) ∧ (0 ≤ d4 ∧ d4 < 2251799813685250) := by
    obtain ⟨rfl, rfl, rfl, rfl, rfl⟩ := hcy
    exact ⟨⟨by omega, by omega⟩, ⟨by omega, by omega⟩, ⟨by omega, by omega⟩, ⟨by omega, by omega⟩, ⟨by omega, by omega⟩⟩
  obtain ⟨⟨b0, c0⟩, ⟨b1, c1⟩, ⟨b2, c2⟩, ⟨b3, c3⟩, ⟨b4, c4⟩⟩ := bd
  have HW : Hid (Limbs W bv ov d0 d1 d2 d3 d4 ∧ Upd w W bv ov 5 ∧ Cg (val d0 d1 d2 d3 d4) V) := hid ⟨hl, hu, hcg.trans CA.out⟩
  obtain ⟨f0, f1, f2, f3, f4⟩ := hu.free HL.out.1.lt HL.out.2
  obtain ⟨q0, q1, q2, q3, q4⟩ := hl
  clear hcy hu hcg la0 ua0 la1 ua1 la2 ua2 la3 ua3 la4 ua4 CA HL

  obtain ⟨e0, r0⟩ : ∃ z, (d0 + 19) / 2251799813685248 = z := ⟨_, rfl⟩
  have y0 : 0 ≤ e0 := by omega
  have z0 : e0 ≤ 1 := by omega
  have R0 : Hid ((d0 + 19) / 2251799813685248 = e0) := hid r0
  obtain ⟨e1, r1⟩ : ∃ z, (d1 + e0) / 2251799813685248 = z := ⟨_, rfl⟩
  have y1 : 0 ≤ e1 := by omega
  have z1 : e1 ≤ 1 := by omega
  have R1 : Hid ((d1 + e0) / 2251799813685248 = e1) := hid r1
  obtain ⟨e2, r2⟩ : ∃ z, (d2 + e1) / 2251799813685248 = z := ⟨_, rfl⟩
  have y2 : 0 ≤ e2 := by omega
  have z2 : e2 ≤ 1 := by omega
  have R2 : Hid ((d2 + e1) / 2251799813685248 = e2) := hid r2
  obtain ⟨e3, r3⟩ : ∃ z, (d3 + e2) / 2251799813685248 = z := ⟨_, rfl⟩
  have y3 : 0 ≤ e3 := by omega
  have z3 : e3 ≤ 1 := by omega
  have R3 : Hid ((d3 + e2) / 2251799813685248 = e3) := hid r3
  obtain ⟨e4, r4⟩ : ∃ z, (d4 + e3) / 2251799813685248 = z := ⟨_, rfl⟩
  have y4 : 0 ≤ e4 := by omega
  have z4 : e4 ≤ 1 := by omega
  have R4 : Hid ((d4 + e3) / 2251799813685248 = e4) := hid r4
  have A0 := and51 (d0 + 19 * e4) (by omega) (by omega)
  obtain ⟨g0, t0⟩ : ∃ z, (d0 + 19 * e4) / 2251799813685248 = z := ⟨_, rfl⟩
  have u0 : 0 ≤ g0 := by omega
  have v0 : g0 ≤ 1 := by omega
  have T0 : Hid ((d0 + 19 * e4) / 2251799813685248 = g0) := hid t0
  have A1 := and51 (d1 + g0) (by omega) (by omega)
  obtain ⟨g1, t1⟩ : ∃ z, (d1 + g0) / 2251799813685248 = z := ⟨_, rfl⟩
  have u1 : 0 ≤ g1 := by omega
  have v1 : g1 ≤ 1 := by omega
  have T1 : Hid ((d1 + g0) / 2251799813685248 = g1) := hid t1
  have A2 := and51 (d2 + g1) (by omega) (by omega)
  obtain ⟨g2, t2⟩ : ∃ z, (d2 + g1) / 2251799813685248 = z := ⟨_, rfl⟩
  have u2 : 0 ≤ g2 := by omega
  have v2 : g2 ≤ 1 := by omega
  have T2 : Hid ((d2 + g1) / 2251799813685248 = g2) := hid t2
  have A3 := and51 (d3 + g2) (by omega) (by omega)
  obtain ⟨g3, t3⟩ : ∃ z, (d3 + g2) / 2251799813685248 = z := ⟨_, rfl⟩
  have u3 : 0 ≤ g3 := by omega
  have v3 : g3 ≤ 1 := by omega
  have T3 : Hid ((d3 + g2) / 2251799813685248 = g3) := hid t3
  have A4 := and51 (d4 + g3) (by omega) (by omega)
  go_wp2_with fail
  go_region
  go_wp2_with fail
  go_region
  go_wp2_with fail
  go_region
  go_wp2_with fail
  go_region
  go_wp2_with fail
  go_ret
  exact reduced_mk HW.out.1 HW.out.2.1 b0 c0 b1 c1 b2 c2 b3 c3 b4 c4 R0 R1 R2 R3 R4 T0 T1 T2 T3 HW.out.2.2 rfl
end Go.Proofs.YtflmkgecgijncaaDoor
