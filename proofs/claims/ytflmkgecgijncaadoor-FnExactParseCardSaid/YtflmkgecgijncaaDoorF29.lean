/-
  Elements that may only be read: Subtract and Multiply. Printed by gen_read.py.
  Pow22523: the (2^252 - 3)-th power. The walk was printed by gen_p22.py.
  Select: an element is one of two. The walk was printed by gen_sel.py.
-/
import Derived.Test.YtflmkgecgijncaaDoorF15
import Derived.Test.YtflmkgecgijncaaDoorF16

namespace Go.Proofs.YtflmkgecgijncaaDoor
open Go.RowKit Go.Shelf

/-- An element is there to be read. -/
def R5 (w : World) (b o : Nat) (X : Int) : Prop := ∃ c0 c1 c2 c3 c4 : Int, Limbs w b o c0 c1 c2 c3 c4 ∧ Tight c0 c1 c2 c3 c4 ∧ Cg (val c0 c1 c2 c3 c4) X
theorem E5.r5 {w : World} {b o : Nat} {X : Int} (h : E5 w b o X) : R5 w b o X := h.1
theorem R5.lt {w : World} {b o : Nat} {X : Int} (h : R5 w b o X) : b < w.heap.size := by obtain ⟨_, _, _, _, _, h, _⟩ := h; exact h.lt
theorem R5.e5 {w : World} {b o : Nat} {X : Int} (h : R5 w b o X) (f : Free w b o) : E5 w b o X := ⟨h, f⟩
theorem R5.keep {w w' : World} {b o b' o' : Nat} {X : Int} (h : R5 w b' o' X) (hu : Upd w w' b o 5) (hoff : Off b o b' o') : R5 w' b' o' X := by
  obtain ⟨c0, c1, c2, c3, c4, h, r⟩ := h; exact ⟨c0, c1, c2, c3, c4, hu.limbs hoff h, r⟩
theorem R5.below {w w' : World} {B b o : Nat} {X : Int} (h : R5 w b o X) (hb : Below B w w') (hB : b < B) : R5 w' b o X := by
  obtain ⟨c0, c1, c2, c3, c4, ⟨h0, h1, h2, h3, h4⟩, r⟩ := h
  exact ⟨c0, c1, c2, c3, c4, ⟨(hb.cell hB).trans h0, (hb.cell (p := ⟨b, o + 1, none⟩) hB).trans h1, (hb.cell (p := ⟨b, o + 2, none⟩) hB).trans h2, (hb.cell (p := ⟨b, o + 3, none⟩) hB).trans h3, (hb.cell (p := ⟨b, o + 4, none⟩) hB).trans h4⟩, r⟩

set_option maxRecDepth 100000 in
set_option maxHeartbeats 4000000 in
theorem Subtract_r (bv ov ba oa bb ob : Nat) (A B : Int) (w : World) (ha : R5 w ba oa A) (hb : R5 w bb ob B) (hv : Room w bv ov) (alA : Al bv ov ba oa) (alB : Al bv ov bb ob) :
    Calls Tryd.prog 66 #[.pointer (some ⟨bv, ov, none⟩), .pointer (some ⟨ba, oa, none⟩), .pointer (some ⟨bb, ob, none⟩)] w (Did w bv ov (A - B) (.pointer (some ⟨bv, ov, none⟩))) := by
  have lta := ha.lt
  have ltb := hb.lt
  have ltv := hv.lt
  obtain ⟨a0, a1, a2, a3, a4, ⟨ca0, ca1, ca2, ca3, ca4⟩, ⟨⟨la0, ua0⟩, ⟨la1, ua1⟩, ⟨la2, ua2⟩, ⟨la3, ua3⟩, ⟨la4, ua4⟩⟩, cgA⟩ := ha
  obtain ⟨b0, b1, b2, b3, b4, ⟨cb0, cb1, cb2, cb3, cb4⟩, ⟨⟨lb0, ub0⟩, ⟨lb1, ub1⟩, ⟨lb2, ub2⟩, ⟨lb3, ub3⟩, ⟨lb4, ub4⟩⟩, cgB⟩ := hb
  obtain ⟨⟨z0, z1, z2, z3, z4, g0, g1, g2, g3, g4⟩, hfree⟩ := hv
  have HF : Hid (Free w bv ov) := hid hfree
  obtain ⟨f0, f1, f2, f3, f4⟩ := hfree
  have Ca0 : Hid (w.cell? ⟨ba, oa, none⟩ = some (.int .u64 a0)) := hid ca0
  have Ca1 : Hid (w.cell? ⟨ba, oa + 1, none⟩ = some (.int .u64 a1)) := hid ca1
  have Ca2 : Hid (w.cell? ⟨ba, oa + 2, none⟩ = some (.int .u64 a2)) := hid ca2
  have Ca3 : Hid (w.cell? ⟨ba, oa + 3, none⟩ = some (.int .u64 a3)) := hid ca3
  have Ca4 : Hid (w.cell? ⟨ba, oa + 4, none⟩ = some (.int .u64 a4)) := hid ca4
  have Cb0 : Hid (w.cell? ⟨bb, ob, none⟩ = some (.int .u64 b0)) := hid cb0
  have Cb1 : Hid (w.cell? ⟨bb, ob + 1, none⟩ = some (.int .u64 b1)) := hid cb1
  have Cb2 : Hid (w.cell? ⟨bb, ob + 2, none⟩ = some (.int .u64 b2)) := hid cb2
  have Cb3 : Hid (w.cell? ⟨bb, ob + 3, none⟩ = some (.int .u64 b3)) := hid cb3
  have Cb4 : Hid (w.cell? ⟨bb, ob + 4, none⟩ = some (.int .u64 b4)) := hid cb4
  have G0 : Hid (w.cell? ⟨bv, ov, none⟩ = some (.int .u64 z0)) := hid g0
  have F0 : Hid (w.frozen? ⟨bv, ov, none⟩ = false) := hid f0
  have G1 : Hid (w.cell? ⟨bv, ov + 1, none⟩ = some (.int .u64 z1)) := hid g1
  have F1 : Hid (w.frozen? ⟨bv, ov + 1, none⟩ = false) := hid f1
  have G2 : Hid (w.cell? ⟨bv, ov + 2, none⟩ = some (.int .u64 z2)) := hid g2
  have F2 : Hid (w.frozen? ⟨bv, ov + 2, none⟩ = false) := hid f2
  have G3 : Hid (w.cell? ⟨bv, ov + 3, none⟩ = some (.int .u64 z3)) := hid g3
  have F3 : Hid (w.frozen? ⟨bv, ov + 3, none⟩ = false) := hid f3
  have G4 : Hid (w.cell? ⟨bv, ov + 4, none⟩ = some (.int .u64 z4)) := hid g4
  have F4 : Hid (w.frozen? ⟨bv, ov + 4, none⟩ = false) := hid f4
  have CA : Hid (Cg (val a0 a1 a2 a3 a4) A) := hid cgA
  have CB : Hid (Cg (val b0 b1 b2 b3 b4) B) := hid cgB
  have ALA : Hid (Al bv ov ba oa) := hid alA
  have ALB : Hid (Al bv ov bb ob) := hid alB
  have LTA : Hid (ba < w.heap.size) := hid lta
  have LTB : Hid (bb < w.heap.size) := hid ltb
  have LTV : Hid (bv < w.heap.size) := hid ltv
  clear ca0 cb0 g0 f0 ca1 cb1 g1 f1 ca2 cb2 g2 f2 ca3 cb3 g3 f3 ca4 cb4 g4 f4 cgA cgB alA alB lta ltb ltv
  have S0 := Acc.start w bv ov (fun j => match j with | 0 => a0 + 4503599627370458 - b0 | 1 => a1 + 4503599627370494 - b1 | 2 => a2 + 4503599627370494 - b2 | 3 => a3 + 4503599627370494 - b3 | _ => a4 + 4503599627370494 - b4)
  generalize hc : ((fun j => match j with | 0 => a0 + 4503599627370458 - b0 | 1 => a1 + 4503599627370494 - b1 | 2 => a2 + 4503599627370494 - b2 | 3 => a3 + 4503599627370494 - b3 | _ => a4 + 4503599627370494 - b4) : Nat → Int) = c at S0
  have k0 : a0 + 4503599627370458 - b0 = c 0 := congrFun hc 0
  have k1 : a1 + 4503599627370494 - b1 = c 1 := congrFun hc 1
  have k2 : a2 + 4503599627370494 - b2 = c 2 := congrFun hc 2
  have k3 : a3 + 4503599627370494 - b3 = c 3 := congrFun hc 3
  have k4 : a4 + 4503599627370494 - b4 = c 4 := congrFun hc 4
  have K0 : Hid (a0 + 4503599627370458 - b0 = c 0) := hid k0
  have K1 : Hid (a1 + 4503599627370494 - b1 = c 1) := hid k1
  have K2 : Hid (a2 + 4503599627370494 - b2 = c 2) := hid k2
  have K3 : Hid (a3 + 4503599627370494 - b3 = c 3) := hid k3
  have K4 : Hid (a4 + 4503599627370494 - b4 = c 4) := hid k4
  clear hc k0 k1 k2 k3 k4
  go_enter Tryd.func66, Tryd.ntmps66
  go_wp2_with fail
  have ra : w.cell? ⟨ba, oa, none⟩ = some (.int .u64 a0) := S0.cell ALA.out LTA.out 0 (by decide) (by decide) Ca0.out
  have rb : w.cell? ⟨bb, ob, none⟩ = some (.int .u64 b0) := S0.cell ALB.out LTB.out 0 (by decide) (by decide) Cb0.out
  have rv : w.cell? ⟨bv, ov, none⟩ = some (.int .u64 z0) := S0.cell (Or.inl ⟨rfl, rfl⟩) LTV.out 0 (by decide) (by decide) G0.out
  have rf : w.frozen? ⟨bv, ov, none⟩ = false := S0.frozen _ F0.out
  go_region
  have S1 : Acc w (w.setCell ⟨bv, ov, none⟩ (.int .u64 (a0 + 4503599627370458 - b0))).drew bv ov 1 c := S0.step (by rw [show ov + 0 = ov from rfl, rv]; rfl) K0.out
  generalize (w.setCell ⟨bv, ov, none⟩ (.int .u64 (a0 + 4503599627370458 - b0))).drew = W0 at S1 ⊢
  clear ra rb rv rf S0
  go_wp2_with fail
  have ra : W0.cell? ⟨ba, oa + 1, none⟩ = some (.int .u64 a1) := S1.cell ALA.out LTA.out 1 (by decide) (by decide) Ca1.out
  have rb : W0.cell? ⟨bb, ob + 1, none⟩ = some (.int .u64 b1) := S1.cell ALB.out LTB.out 1 (by decide) (by decide) Cb1.out
  have rv : W0.cell? ⟨bv, ov + 1, none⟩ = some (.int .u64 z1) := S1.cell (Or.inl ⟨rfl, rfl⟩) LTV.out 1 (by decide) (by decide) G1.out
  have rf : W0.frozen? ⟨bv, ov + 1, none⟩ = false := S1.frozen _ F1.out
  go_region
  have S2 : Acc w (W0.setCell ⟨bv, ov + 1, none⟩ (.int .u64 (a1 + 4503599627370494 - b1))).drew bv ov 2 c := S1.step (by rw [show ov + 1 = ov + 1 from rfl, rv]; rfl) K1.out
  generalize (W0.setCell ⟨bv, ov + 1, none⟩ (.int .u64 (a1 + 4503599627370494 - b1))).drew = W1 at S2 ⊢
  clear ra rb rv rf S1
  go_wp2_with fail
  have ra : W1.cell? ⟨ba, oa + 2, none⟩ = some (.int .u64 a2) := S2.cell ALA.out LTA.out 2 (by decide) (by decide) Ca2.out
  have rb : W1.cell? ⟨bb, ob + 2, none⟩ = some (.int .u64 b2) := S2.cell ALB.out LTB.out 2 (by decide) (by decide) Cb2.out
  have rv : W1.cell? ⟨bv, ov + 2, none⟩ = some (.int .u64 z2) := S2.cell (Or.inl ⟨rfl, rfl⟩) LTV.out 2 (by decide) (by decide) G2.out
  have rf : W1.frozen? ⟨bv, ov + 2, none⟩ = false := S2.frozen _ F2.out
  go_region
  have S3 : Acc w (W1.setCell ⟨bv, ov + 2, none⟩ (.int .u64 (a2 + 4503599627370494 - b2))).drew bv ov 3 c := S2.step (by rw [show ov + 2 = ov + 2 from rfl, rv]; rfl) K2.out
  generalize (W1.setCell ⟨bv, ov + 2, none⟩ (.int .u64 (a2 + 4503599627370494 - b2))).drew = W2 at S3 ⊢
  clear ra rb rv rf S2
  go_wp2_with fail
  have ra : W2.cell? ⟨ba, oa + 3, none⟩ = some (.int .u64 a3) := S3.cell ALA.out LTA.out 3 (by decide) (by decide) Ca3.out
  have rb : W2.cell? ⟨bb, ob + 3, none⟩ = some (.int .u64 b3) := S3.cell ALB.out LTB.out 3 (by decide) (by decide) Cb3.out
  have rv : W2.cell? ⟨bv, ov + 3, none⟩ = some (.int .u64 z3) := S3.cell (Or.inl ⟨rfl, rfl⟩) LTV.out 3 (by decide) (by decide) G3.out
  have rf : W2.frozen? ⟨bv, ov + 3, none⟩ = false := S3.frozen _ F3.out
  go_region
  have S4 : Acc w (W2.setCell ⟨bv, ov + 3, none⟩ (.int .u64 (a3 + 4503599627370494 - b3))).drew bv ov 4 c := S3.step (by rw [show ov + 3 = ov + 3 from rfl, rv]; rfl) K3.out
  generalize (W2.setCell ⟨bv, ov + 3, none⟩ (.int .u64 (a3 + 4503599627370494 - b3))).drew = W3 at S4 ⊢
  clear ra rb rv rf S3
  go_wp2_with fail
  have ra : W3.cell? ⟨ba, oa + 4, none⟩ = some (.int .u64 a4) := S4.cell ALA.out LTA.out 4 (by decide) (by decide) Ca4.out
  have rb : W3.cell? ⟨bb, ob + 4, none⟩ = some (.int .u64 b4) := S4.cell ALB.out LTB.out 4 (by decide) (by decide) Cb4.out
  have rv : W3.cell? ⟨bv, ov + 4, none⟩ = some (.int .u64 z4) := S4.cell (Or.inl ⟨rfl, rfl⟩) LTV.out 4 (by decide) (by decide) G4.out
  have rf : W3.frozen? ⟨bv, ov + 4, none⟩ = false := S4.frozen _ F4.out
  go_region
  have S5 : Acc w (W3.setCell ⟨bv, ov + 4, none⟩ (.int .u64 (a4 + 4503599627370494 - b4))).drew bv ov 5 c := S4.step (by rw [show ov + 4 = ov + 4 from rfl, rv]; rfl) K4.out
  generalize (W3.setCell ⟨bv, ov + 4, none⟩ (.int .u64 (a4 + 4503599627370494 - b4))).drew = W4 at S5 ⊢
  clear ra rb rv rf S4
  go_wp2_with fail
  have HL := S5.limbs
  rw [← K0.out, ← K1.out, ← K2.out, ← K3.out, ← K4.out] at HL
  have HU := S5.upd
  have HFW := HU.free LTV.out HF.out
  clear S5
  refine (carryPropagate_any bv ov (a0 + 4503599627370458 - b0) (a1 + 4503599627370494 - b1) (a2 + 4503599627370494 - b2) (a3 + 4503599627370494 - b3) (a4 + 4503599627370494 - b4) _ HL HFW (by omega) (by omega) (by omega) (by omega) (by omega) (by omega) (by omega) (by omega) (by omega) (by omega)).mono ?_
  rintro e w' ⟨d0, d1, d2, d3, d4, rfl, hcy, hl', hu'⟩
  have Q : Hid (_ ∧ _ ∧ _) := hid ⟨hcy, hl', hu'⟩
  clear hcy hl' hu'
  go_wp2_with fail
  go_ret
  obtain ⟨hcy, hl', hu'⟩ := Q.out
  obtain ⟨ht, hcg⟩ := carry1_tight hcy (by omega) (by omega) (by omega) (by omega) (by omega) (by omega) (by omega) (by omega) (by omega) (by omega)
  exact ⟨rfl, ⟨⟨d0, d1, d2, d3, d4, hl', ht, hcg.trans (Cg.trans (b := val a0 a1 a2 a3 a4 - val b0 b1 b2 b3 b4) ⟨-2, by unfold val pI; omega⟩ (Cg.sub CA.out CB.out))⟩, (HU.trans hu').free LTV.out HF.out⟩, HU.trans hu'⟩


set_option maxHeartbeats 400000 in
theorem feMul_r (bv ov ba oa bb ob : Nat) (A B : Int) (w : World) (ha : R5 w ba oa A) (hb : R5 w bb ob B) (hv : Room w bv ov) :
    Calls Tryd.prog 78 #[.pointer (some ⟨bv, ov, none⟩), .pointer (some ⟨ba, oa, none⟩), .pointer (some ⟨bb, ob, none⟩)] w (Did w bv ov (A * B) (.tuple #[])) := by
  obtain ⟨a0, a1, a2, a3, a4, la, ta, ca⟩ := ha
  obtain ⟨b0, b1, b2, b3, b4, lb, tb, cb⟩ := hb
  have H : Hid (Limbs w ba oa a0 a1 a2 a3 a4 ∧ Tight a0 a1 a2 a3 a4 ∧ Limbs w bb ob b0 b1 b2 b3 b4 ∧ Tight b0 b1 b2 b3 b4 ∧ Room w bv ov) := hid ⟨la, ta, lb, tb, hv⟩
  have G : Hid (Cg (val a0 a1 a2 a3 a4 * val b0 b1 b2 b3 b4) (A * B)) := hid (ca.mul cb)
  clear la ta ca lb tb cb hv
  go_enter Tryd.func78, Tryd.ntmps78
  go_wp2_with fail
  refine (feMulGeneric_any bv ov ba oa bb ob a0 a1 a2 a3 a4 b0 b1 b2 b3 b4 _ H.out.2.2.2.2 H.out.1 H.out.2.2.1 H.out.2.1.small H.out.2.2.2.1.small).mono ?_
  intro e w1 hw
  have hd := ((hw.did H.out.2.2.2.2).cg (mul_val _ _ _ _ _ _ _ _ _ _)).cg G.out
  obtain ⟨rfl, h1, h2⟩ := hd
  have Q : Hid (E5 w1 bv ov (A * B) ∧ Upd w w1 bv ov 5) := hid ⟨h1, h2⟩
  clear h1 h2 hw
  go_wp2_with fail
  go_end0
  exact ⟨rfl, Q.out⟩

set_option maxHeartbeats 400000 in
theorem Multiply_r (bv ov ba oa bb ob : Nat) (A B : Int) (w : World) (ha : R5 w ba oa A) (hb : R5 w bb ob B) (hv : Room w bv ov) :
    Calls Tryd.prog 68 #[.pointer (some ⟨bv, ov, none⟩), .pointer (some ⟨ba, oa, none⟩), .pointer (some ⟨bb, ob, none⟩)] w (Did w bv ov (A * B) (.pointer (some ⟨bv, ov, none⟩))) := by
  have H : Hid (R5 w ba oa A ∧ R5 w bb ob B ∧ Room w bv ov) := hid ⟨ha, hb, hv⟩
  clear ha hb hv
  go_enter Tryd.func68, Tryd.ntmps68
  go_wp2_with fail
  refine (feMul_r bv ov ba oa bb ob A B _ H.out.1 H.out.2.1 H.out.2.2).mono ?_
  rintro e w1 ⟨rfl, h1, h2⟩
  have Q : Hid (E5 w1 bv ov (A * B) ∧ Upd w w1 bv ov 5) := hid ⟨h1, h2⟩
  clear h1 h2
  go_wp2_with fail
  go_ret
  exact ⟨rfl, Q.out⟩

end Go.Proofs.YtflmkgecgijncaaDoor

namespace Go.Proofs.YtflmkgecgijncaaDoor
open Go.RowKit Go.Shelf

set_option maxRecDepth 100000 in
set_option maxHeartbeats 4000000 in
theorem Pow22523_any (bv ov bz oz : Nat) (Z : Int) (w : World) (hz : E5 w bz oz Z) (hv : Room w bv ov) :
    Calls Tryd.prog 101 #[.pointer (some ⟨bv, ov, none⟩), .pointer (some ⟨bz, oz, none⟩)] w (Did w bv ov (zp Z 7237005577332262213973186563042994240829374041602535252466099000494570602493) (.pointer (some ⟨bv, ov, none⟩))) := by
  have ltz := hz.lt
  have ltv := hv.lt
  have HV : Hid (Room w bv ov) := hid hv
  have HZ : Hid (E5 w bz oz (zp Z 1)) := hid (by rw [zp_one]; exact hz)
  clear hz hv
  go_enter Tryd.func101, Tryd.ntmps101
  go_wp2_with fail
  have E_t0 : Hid (E5 (((w.alloc (.cells #[.int .u64 0, .int .u64 0, .int .u64 0, .int .u64 0, .int .u64 0] 80)).alloc (.cells #[.int .u64 0, .int .u64 0, .int .u64 0, .int .u64 0, .int .u64 0] 80)).alloc (.cells #[.int .u64 0, .int .u64 0, .int .u64 0, .int .u64 0, .int .u64 0] 80)) w.heap.size 0 0) := hid (by have := (((e5_new w).alloc (.cells #[.int .u64 0, .int .u64 0, .int .u64 0, .int .u64 0, .int .u64 0] 80)).alloc (.cells #[.int .u64 0, .int .u64 0, .int .u64 0, .int .u64 0, .int .u64 0] 80)); simpa using this)
  have E_t1 : Hid (E5 (((w.alloc (.cells #[.int .u64 0, .int .u64 0, .int .u64 0, .int .u64 0, .int .u64 0] 80)).alloc (.cells #[.int .u64 0, .int .u64 0, .int .u64 0, .int .u64 0, .int .u64 0] 80)).alloc (.cells #[.int .u64 0, .int .u64 0, .int .u64 0, .int .u64 0, .int .u64 0] 80)) (w.heap.size + 1) 0 0) := hid (by have := ((e5_new (w.alloc (.cells #[.int .u64 0, .int .u64 0, .int .u64 0, .int .u64 0, .int .u64 0] 80))).alloc (.cells #[.int .u64 0, .int .u64 0, .int .u64 0, .int .u64 0, .int .u64 0] 80)); simpa using this)
  have E_t2 : Hid (E5 (((w.alloc (.cells #[.int .u64 0, .int .u64 0, .int .u64 0, .int .u64 0, .int .u64 0] 80)).alloc (.cells #[.int .u64 0, .int .u64 0, .int .u64 0, .int .u64 0, .int .u64 0] 80)).alloc (.cells #[.int .u64 0, .int .u64 0, .int .u64 0, .int .u64 0, .int .u64 0] 80)) (w.heap.size + 2) 0 0) := hid (by have := (e5_new ((w.alloc (.cells #[.int .u64 0, .int .u64 0, .int .u64 0, .int .u64 0, .int .u64 0] 80)).alloc (.cells #[.int .u64 0, .int .u64 0, .int .u64 0, .int .u64 0, .int .u64 0] 80))); simpa using this)
  have E_z : Hid (E5 (((w.alloc (.cells #[.int .u64 0, .int .u64 0, .int .u64 0, .int .u64 0, .int .u64 0] 80)).alloc (.cells #[.int .u64 0, .int .u64 0, .int .u64 0, .int .u64 0, .int .u64 0] 80)).alloc (.cells #[.int .u64 0, .int .u64 0, .int .u64 0, .int .u64 0, .int .u64 0] 80)) bz oz (zp Z 1)) := hid (((HZ.out.alloc _).alloc _).alloc _)
  have V : Hid (Room (((w.alloc (.cells #[.int .u64 0, .int .u64 0, .int .u64 0, .int .u64 0, .int .u64 0] 80)).alloc (.cells #[.int .u64 0, .int .u64 0, .int .u64 0, .int .u64 0, .int .u64 0] 80)).alloc (.cells #[.int .u64 0, .int .u64 0, .int .u64 0, .int .u64 0, .int .u64 0] 80)) bv ov) := hid (((HV.out.alloc _).alloc _).alloc _)
  have UB : Hid (Below w.heap.size w (((w.alloc (.cells #[.int .u64 0, .int .u64 0, .int .u64 0, .int .u64 0, .int .u64 0] 80)).alloc (.cells #[.int .u64 0, .int .u64 0, .int .u64 0, .int .u64 0, .int .u64 0] 80)).alloc (.cells #[.int .u64 0, .int .u64 0, .int .u64 0, .int .u64 0, .int .u64 0] 80))) := hid ((((Below.refl _ _).alloc (Nat.le_refl _) _).alloc (by simp <;> omega) _).alloc (by simp <;> omega) _)
  have SZ : Hid (w.heap.size + 3 ≤ ((((w.alloc (.cells #[.int .u64 0, .int .u64 0, .int .u64 0, .int .u64 0, .int .u64 0] 80)).alloc (.cells #[.int .u64 0, .int .u64 0, .int .u64 0, .int .u64 0, .int .u64 0] 80)).alloc (.cells #[.int .u64 0, .int .u64 0, .int .u64 0, .int .u64 0, .int .u64 0] 80))).heap.size) := hid (by simp)
  generalize (((w.alloc (.cells #[.int .u64 0, .int .u64 0, .int .u64 0, .int .u64 0, .int .u64 0] 80)).alloc (.cells #[.int .u64 0, .int .u64 0, .int .u64 0, .int .u64 0, .int .u64 0] 80)).alloc (.cells #[.int .u64 0, .int .u64 0, .int .u64 0, .int .u64 0, .int .u64 0] 80)) = w0 at E_t0 E_t1 E_t2 E_z V UB SZ ⊢
  clear HZ HV
  refine (Square_any w.heap.size 0 bz oz (zp Z 1) _ E_z.out E_t0.out.room).mono ?_
  rintro e w1 ⟨rfl, hE, hU⟩
  have hE' : E5 w1 w.heap.size 0 (zp Z 2) := hE.cg (zp_mul Z (by decide +kernel))
  replace V : Hid (Room w1 bv ov) := hid (V.out.keep hU (Or.inl (by omega)))
  replace E_t1 := hid (E_t1.out.keep hU (Or.inl (by omega)))
  replace E_t2 := hid (E_t2.out.keep hU (Or.inl (by omega)))
  replace E_z := hid (E_z.out.keep hU (Or.inl (by omega)))
  replace E_t0 : Hid (E5 w1 w.heap.size 0 (zp Z 2)) := hid hE'
  replace UB : Hid (Below w.heap.size w w1) := hid (UB.out.trans (hU.below (by omega) (by have := SZ.out; omega)))
  replace SZ : Hid (w.heap.size + 3 ≤ w1.heap.size) := hid (Nat.le_trans SZ.out hU.size)
  clear hE hE' hU
  go_wp2_with fail
  refine (Multiply_any (w.heap.size + 1) 0 bz oz w.heap.size 0 (zp Z 1) (zp Z 2) _ E_z.out E_t0.out E_t1.out.room).mono ?_
  rintro e w2 ⟨rfl, hE, hU⟩
  have hE' : E5 w2 (w.heap.size + 1) 0 (zp Z 3) := hE.cg (zp_mul Z (by decide +kernel))
  replace V : Hid (Room w2 bv ov) := hid (V.out.keep hU (Or.inl (by omega)))
  replace E_t0 := hid (E_t0.out.keep hU (Or.inl (by omega)))
  replace E_t2 := hid (E_t2.out.keep hU (Or.inl (by omega)))
  replace E_z := hid (E_z.out.keep hU (Or.inl (by omega)))
  replace E_t1 : Hid (E5 w2 (w.heap.size + 1) 0 (zp Z 3)) := hid hE'
  replace UB : Hid (Below w.heap.size w w2) := hid (UB.out.trans (hU.below (by omega) (by have := SZ.out; omega)))
  replace SZ : Hid (w.heap.size + 3 ≤ w2.heap.size) := hid (Nat.le_trans SZ.out hU.size)
  clear hE hE' hU
  go_wp2_with fail
  refine (Square_any w.heap.size 0 (w.heap.size + 1) 0 (zp Z 3) _ E_t1.out E_t0.out.room).mono ?_
  rintro e w3 ⟨rfl, hE, hU⟩
  have hE' : E5 w3 w.heap.size 0 (zp Z 6) := hE.cg (zp_mul Z (by decide +kernel))
  replace V : Hid (Room w3 bv ov) := hid (V.out.keep hU (Or.inl (by omega)))
  replace E_t1 := hid (E_t1.out.keep hU (Or.inl (by omega)))
  replace E_t2 := hid (E_t2.out.keep hU (Or.inl (by omega)))
  replace E_z := hid (E_z.out.keep hU (Or.inl (by omega)))
  replace E_t0 : Hid (E5 w3 w.heap.size 0 (zp Z 6)) := hid hE'
  replace UB : Hid (Below w.heap.size w w3) := hid (UB.out.trans (hU.below (by omega) (by have := SZ.out; omega)))
  replace SZ : Hid (w.heap.size + 3 ≤ w3.heap.size) := hid (Nat.le_trans SZ.out hU.size)
  clear hE hE' hU
  go_wp2_with fail
  refine (Square_any w.heap.size 0 w.heap.size 0 (zp Z 6) _ E_t0.out E_t0.out.room).mono ?_
  rintro e w4 ⟨rfl, hE, hU⟩
  have hE' : E5 w4 w.heap.size 0 (zp Z 12) := hE.cg (zp_mul Z (by decide +kernel))
  replace V : Hid (Room w4 bv ov) := hid (V.out.keep hU (Or.inl (by omega)))
  replace E_t1 := hid (E_t1.out.keep hU (Or.inl (by omega)))
  replace E_t2 := hid (E_t2.out.keep hU (Or.inl (by omega)))
  replace E_z := hid (E_z.out.keep hU (Or.inl (by omega)))
  replace E_t0 : Hid (E5 w4 w.heap.size 0 (zp Z 12)) := hid hE'
  replace UB : Hid (Below w.heap.size w w4) := hid (UB.out.trans (hU.below (by omega) (by have := SZ.out; omega)))
  replace SZ : Hid (w.heap.size + 3 ≤ w4.heap.size) := hid (Nat.le_trans SZ.out hU.size)
  clear hE hE' hU
  go_wp2_with fail
  refine (Multiply_any w.heap.size 0 (w.heap.size + 1) 0 w.heap.size 0 (zp Z 3) (zp Z 12) _ E_t1.out E_t0.out E_t0.out.room).mono ?_
  rintro e w5 ⟨rfl, hE, hU⟩
  have hE' : E5 w5 w.heap.size 0 (zp Z 15) := hE.cg (zp_mul Z (by decide +kernel))
  replace V : Hid (Room w5 bv ov) := hid (V.out.keep hU (Or.inl (by omega)))
  replace E_t1 := hid (E_t1.out.keep hU (Or.inl (by omega)))
  replace E_t2 := hid (E_t2.out.keep hU (Or.inl (by omega)))
  replace E_z := hid (E_z.out.keep hU (Or.inl (by omega)))
  replace E_t0 : Hid (E5 w5 w.heap.size 0 (zp Z 15)) := hid hE'
  replace UB : Hid (Below w.heap.size w w5) := hid (UB.out.trans (hU.below (by omega) (by have := SZ.out; omega)))
  replace SZ : Hid (w.heap.size + 3 ≤ w5.heap.size) := hid (Nat.le_trans SZ.out hU.size)
  clear hE hE' hU
  go_wp2_with fail
  refine (Square_any w.heap.size 0 w.heap.size 0 (zp Z 15) _ E_t0.out E_t0.out.room).mono ?_
  rintro e w6 ⟨rfl, hE, hU⟩
  have hE' : E5 w6 w.heap.size 0 (zp Z 30) := hE.cg (zp_mul Z (by decide +kernel))
  replace V : Hid (Room w6 bv ov) := hid (V.out.keep hU (Or.inl (by omega)))
  replace E_t1 := hid (E_t1.out.keep hU (Or.inl (by omega)))
  replace E_t2 := hid (E_t2.out.keep hU (Or.inl (by omega)))
  replace E_z := hid (E_z.out.keep hU (Or.inl (by omega)))
  replace E_t0 : Hid (E5 w6 w.heap.size 0 (zp Z 30)) := hid hE'
  replace UB : Hid (Below w.heap.size w w6) := hid (UB.out.trans (hU.below (by omega) (by have := SZ.out; omega)))
  replace SZ : Hid (w.heap.size + 3 ≤ w6.heap.size) := hid (Nat.le_trans SZ.out hU.size)
  clear hE hE' hU
  go_wp2_with fail
  refine (Multiply_any w.heap.size 0 bz oz w.heap.size 0 (zp Z 1) (zp Z 30) _ E_z.out E_t0.out E_t0.out.room).mono ?_
  rintro e w7 ⟨rfl, hE, hU⟩
  have hE' : E5 w7 w.heap.size 0 (zp Z 31) := hE.cg (zp_mul Z (by decide +kernel))
  replace V : Hid (Room w7 bv ov) := hid (V.out.keep hU (Or.inl (by omega)))
  replace E_t1 := hid (E_t1.out.keep hU (Or.inl (by omega)))
  replace E_t2 := hid (E_t2.out.keep hU (Or.inl (by omega)))
  replace E_z := hid (E_z.out.keep hU (Or.inl (by omega)))
  replace E_t0 : Hid (E5 w7 w.heap.size 0 (zp Z 31)) := hid hE'
  replace UB : Hid (Below w.heap.size w w7) := hid (UB.out.trans (hU.below (by omega) (by have := SZ.out; omega)))
  replace SZ : Hid (w.heap.size + 3 ≤ w7.heap.size) := hid (Nat.le_trans SZ.out hU.size)
  clear hE hE' hU
  go_wp2_with fail
  refine (SquareN_any (w.heap.size + 1) 0 w.heap.size 0 5 (zp Z 31) _ E_t0.out E_t1.out.room (by decide)).mono ?_
  rintro e w8 ⟨rfl, hE, hU⟩
  have hE' : E5 w8 (w.heap.size + 1) 0 (zp Z 992) := hE.cg (zp_sq Z (by decide +kernel))
  replace V : Hid (Room w8 bv ov) := hid (V.out.keep hU (Or.inl (by omega)))
  replace E_t0 := hid (E_t0.out.keep hU (Or.inl (by omega)))
  replace E_t2 := hid (E_t2.out.keep hU (Or.inl (by omega)))
  replace E_z := hid (E_z.out.keep hU (Or.inl (by omega)))
  replace E_t1 : Hid (E5 w8 (w.heap.size + 1) 0 (zp Z 992)) := hid hE'
  replace UB : Hid (Below w.heap.size w w8) := hid (UB.out.trans (hU.below (by omega) (by have := SZ.out; omega)))
  replace SZ : Hid (w.heap.size + 3 ≤ w8.heap.size) := hid (Nat.le_trans SZ.out hU.size)
  clear hE hE' hU
  go_wp2_with fail
  refine (Multiply_any (w.heap.size + 1) 0 (w.heap.size + 1) 0 w.heap.size 0 (zp Z 992) (zp Z 31) _ E_t1.out E_t0.out E_t1.out.room).mono ?_
  rintro e w9 ⟨rfl, hE, hU⟩
  have hE' : E5 w9 (w.heap.size + 1) 0 (zp Z 1023) := hE.cg (zp_mul Z (by decide +kernel))
  replace V : Hid (Room w9 bv ov) := hid (V.out.keep hU (Or.inl (by omega)))
  replace E_t0 := hid (E_t0.out.keep hU (Or.inl (by omega)))
  replace E_t2 := hid (E_t2.out.keep hU (Or.inl (by omega)))
  replace E_z := hid (E_z.out.keep hU (Or.inl (by omega)))
  replace E_t1 : Hid (E5 w9 (w.heap.size + 1) 0 (zp Z 1023)) := hid hE'
  replace UB : Hid (Below w.heap.size w w9) := hid (UB.out.trans (hU.below (by omega) (by have := SZ.out; omega)))
  replace SZ : Hid (w.heap.size + 3 ≤ w9.heap.size) := hid (Nat.le_trans SZ.out hU.size)
  clear hE hE' hU
  go_wp2_with fail
  refine (SquareN_any (w.heap.size + 2) 0 (w.heap.size + 1) 0 5 (zp Z 1023) _ E_t1.out E_t2.out.room (by decide)).mono ?_
  rintro e w10 ⟨rfl, hE, hU⟩
  have hE' : E5 w10 (w.heap.size + 2) 0 (zp Z 32736) := hE.cg (zp_sq Z (by decide +kernel))
  replace V : Hid (Room w10 bv ov) := hid (V.out.keep hU (Or.inl (by omega)))
  replace E_t0 := hid (E_t0.out.keep hU (Or.inl (by omega)))
  replace E_t1 := hid (E_t1.out.keep hU (Or.inl (by omega)))
  replace E_z := hid (E_z.out.keep hU (Or.inl (by omega)))
  replace E_t2 : Hid (E5 w10 (w.heap.size + 2) 0 (zp Z 32736)) := hid hE'
  replace UB : Hid (Below w.heap.size w w10) := hid (UB.out.trans (hU.below (by omega) (by have := SZ.out; omega)))
  replace SZ : Hid (w.heap.size + 3 ≤ w10.heap.size) := hid (Nat.le_trans SZ.out hU.size)
  clear hE hE' hU
  go_wp2_with fail
  refine (Multiply_any w.heap.size 0 (w.heap.size + 2) 0 w.heap.size 0 (zp Z 32736) (zp Z 31) _ E_t2.out E_t0.out E_t0.out.room).mono ?_
  rintro e w11 ⟨rfl, hE, hU⟩
  have hE' : E5 w11 w.heap.size 0 (zp Z 32767) := hE.cg (zp_mul Z (by decide +kernel))
  replace V : Hid (Room w11 bv ov) := hid (V.out.keep hU (Or.inl (by omega)))
  replace E_t1 := hid (E_t1.out.keep hU (Or.inl (by omega)))
  replace E_t2 := hid (E_t2.out.keep hU (Or.inl (by omega)))
  replace E_z := hid (E_z.out.keep hU (Or.inl (by omega)))
  replace E_t0 : Hid (E5 w11 w.heap.size 0 (zp Z 32767)) := hid hE'
  replace UB : Hid (Below w.heap.size w w11) := hid (UB.out.trans (hU.below (by omega) (by have := SZ.out; omega)))
  replace SZ : Hid (w.heap.size + 3 ≤ w11.heap.size) := hid (Nat.le_trans SZ.out hU.size)
  clear hE hE' hU
  go_wp2_with fail
  refine (SquareN_any (w.heap.size + 2) 0 w.heap.size 0 15 (zp Z 32767) _ E_t0.out E_t2.out.room (by decide)).mono ?_
  rintro e w12 ⟨rfl, hE, hU⟩
  have hE' : E5 w12 (w.heap.size + 2) 0 (zp Z 1073709056) := hE.cg (zp_sq Z (by decide +kernel))
  replace V : Hid (Room w12 bv ov) := hid (V.out.keep hU (Or.inl (by omega)))
  replace E_t0 := hid (E_t0.out.keep hU (Or.inl (by omega)))
  replace E_t1 := hid (E_t1.out.keep hU (Or.inl (by omega)))
  replace E_z := hid (E_z.out.keep hU (Or.inl (by omega)))
  replace E_t2 : Hid (E5 w12 (w.heap.size + 2) 0 (zp Z 1073709056)) := hid hE'
  replace UB : Hid (Below w.heap.size w w12) := hid (UB.out.trans (hU.below (by omega) (by have := SZ.out; omega)))
  replace SZ : Hid (w.heap.size + 3 ≤ w12.heap.size) := hid (Nat.le_trans SZ.out hU.size)
  clear hE hE' hU
  go_wp2_with fail
  refine (Multiply_any (w.heap.size + 2) 0 (w.heap.size + 2) 0 w.heap.size 0 (zp Z 1073709056) (zp Z 32767) _ E_t2.out E_t0.out E_t2.out.room).mono ?_
  rintro e w13 ⟨rfl, hE, hU⟩
  have hE' : E5 w13 (w.heap.size + 2) 0 (zp Z 1073741823) := hE.cg (zp_mul Z (by decide +kernel))
  replace V : Hid (Room w13 bv ov) := hid (V.out.keep hU (Or.inl (by omega)))
  replace E_t0 := hid (E_t0.out.keep hU (Or.inl (by omega)))
  replace E_t1 := hid (E_t1.out.keep hU (Or.inl (by omega)))
  replace E_z := hid (E_z.out.keep hU (Or.inl (by omega)))
  replace E_t2 : Hid (E5 w13 (w.heap.size + 2) 0 (zp Z 1073741823)) := hid hE'
  replace UB : Hid (Below w.heap.size w w13) := hid (UB.out.trans (hU.below (by omega) (by have := SZ.out; omega)))
  replace SZ : Hid (w.heap.size + 3 ≤ w13.heap.size) := hid (Nat.le_trans SZ.out hU.size)
  clear hE hE' hU
  go_wp2_with fail
  refine (SquareN_any w.heap.size 0 (w.heap.size + 2) 0 30 (zp Z 1073741823) _ E_t2.out E_t0.out.room (by decide)).mono ?_
  rintro e w14 ⟨rfl, hE, hU⟩
  have hE' : E5 w14 w.heap.size 0 (zp Z 1152921503533105152) := hE.cg (zp_sq Z (by decide +kernel))
  replace V : Hid (Room w14 bv ov) := hid (V.out.keep hU (Or.inl (by omega)))
  replace E_t1 := hid (E_t1.out.keep hU (Or.inl (by omega)))
  replace E_t2 := hid (E_t2.out.keep hU (Or.inl (by omega)))
  replace E_z := hid (E_z.out.keep hU (Or.inl (by omega)))
  replace E_t0 : Hid (E5 w14 w.heap.size 0 (zp Z 1152921503533105152)) := hid hE'
  replace UB : Hid (Below w.heap.size w w14) := hid (UB.out.trans (hU.below (by omega) (by have := SZ.out; omega)))
  replace SZ : Hid (w.heap.size + 3 ≤ w14.heap.size) := hid (Nat.le_trans SZ.out hU.size)
  clear hE hE' hU
  go_wp2_with fail
  refine (Multiply_any w.heap.size 0 w.heap.size 0 (w.heap.size + 2) 0 (zp Z 1152921503533105152) (zp Z 1073741823) _ E_t0.out E_t2.out E_t0.out.room).mono ?_
  rintro e w15 ⟨rfl, hE, hU⟩
  have hE' : E5 w15 w.heap.size 0 (zp Z 1152921504606846975) := hE.cg (zp_mul Z (by decide +kernel))
  replace V : Hid (Room w15 bv ov) := hid (V.out.keep hU (Or.inl (by omega)))
  replace E_t1 := hid (E_t1.out.keep hU (Or.inl (by omega)))
  replace E_t2 := hid (E_t2.out.keep hU (Or.inl (by omega)))
  replace E_z := hid (E_z.out.keep hU (Or.inl (by omega)))
  replace E_t0 : Hid (E5 w15 w.heap.size 0 (zp Z 1152921504606846975)) := hid hE'
  replace UB : Hid (Below w.heap.size w w15) := hid (UB.out.trans (hU.below (by omega) (by have := SZ.out; omega)))
  replace SZ : Hid (w.heap.size + 3 ≤ w15.heap.size) := hid (Nat.le_trans SZ.out hU.size)
  clear hE hE' hU
  go_wp2_with fail
  refine (SquareN_any (w.heap.size + 2) 0 w.heap.size 0 60 (zp Z 1152921504606846975) _ E_t0.out E_t2.out.room (by decide)).mono ?_
  rintro e w16 ⟨rfl, hE, hU⟩
  have hE' : E5 w16 (w.heap.size + 2) 0 (zp Z 1329227995784915871750885555673497600) := hE.cg (zp_sq Z (by decide +kernel))
  replace V : Hid (Room w16 bv ov) := hid (V.out.keep hU (Or.inl (by omega)))
  replace E_t0 := hid (E_t0.out.keep hU (Or.inl (by omega)))
  replace E_t1 := hid (E_t1.out.keep hU (Or.inl (by omega)))
  replace E_z := hid (E_z.out.keep hU (Or.inl (by omega)))
  replace E_t2 : Hid (E5 w16 (w.heap.size + 2) 0 (zp Z 1329227995784915871750885555673497600)) := hid hE'
  replace UB : Hid (Below w.heap.size w w16) := hid (UB.out.trans (hU.below (by omega) (by have := SZ.out; omega)))
  replace SZ : Hid (w.heap.size + 3 ≤ w16.heap.size) := hid (Nat.le_trans SZ.out hU.size)
  clear hE hE' hU
  go_wp2_with fail
  refine (Multiply_any (w.heap.size + 2) 0 (w.heap.size + 2) 0 w.heap.size 0 (zp Z 1329227995784915871750885555673497600) (zp Z 1152921504606846975) _ E_t2.out E_t0.out E_t2.out.room).mono ?_
  rintro e w17 ⟨rfl, hE, hU⟩
  have hE' : E5 w17 (w.heap.size + 2) 0 (zp Z 1329227995784915872903807060280344575) := hE.cg (zp_mul Z (by decide +kernel))
  replace V : Hid (Room w17 bv ov) := hid (V.out.keep hU (Or.inl (by omega)))
  replace E_t0 := hid (E_t0.out.keep hU (Or.inl (by omega)))
  replace E_t1 := hid (E_t1.out.keep hU (Or.inl (by omega)))
  replace E_z := hid (E_z.out.keep hU (Or.inl (by omega)))
  replace E_t2 : Hid (E5 w17 (w.heap.size + 2) 0 (zp Z 1329227995784915872903807060280344575)) := hid hE'
  replace UB : Hid (Below w.heap.size w w17) := hid (UB.out.trans (hU.below (by omega) (by have := SZ.out; omega)))
  replace SZ : Hid (w.heap.size + 3 ≤ w17.heap.size) := hid (Nat.le_trans SZ.out hU.size)
  clear hE hE' hU
  go_wp2_with fail
  refine (SquareN_any w.heap.size 0 (w.heap.size + 2) 0 120 (zp Z 1329227995784915872903807060280344575) _ E_t2.out E_t0.out.room (by decide)).mono ?_
  rintro e w18 ⟨rfl, hE, hU⟩
  have hE' : E5 w18 w.heap.size 0 (zp Z 1766847064778384329583297500742918514498255901090703085217799141012275200) := hE.cg (zp_sq Z (by decide +kernel))
  replace V : Hid (Room w18 bv ov) := hid (V.out.keep hU (Or.inl (by omega)))
  replace E_t1 := hid (E_t1.out.keep hU (Or.inl (by omega)))
  replace E_t2 := hid (E_t2.out.keep hU (Or.inl (by omega)))
  replace E_z := hid (E_z.out.keep hU (Or.inl (by omega)))
  replace E_t0 : Hid (E5 w18 w.heap.size 0 (zp Z 1766847064778384329583297500742918514498255901090703085217799141012275200)) := hid hE'
  replace UB : Hid (Below w.heap.size w w18) := hid (UB.out.trans (hU.below (by omega) (by have := SZ.out; omega)))
  replace SZ : Hid (w.heap.size + 3 ≤ w18.heap.size) := hid (Nat.le_trans SZ.out hU.size)
  clear hE hE' hU
  go_wp2_with fail
  refine (Multiply_any w.heap.size 0 w.heap.size 0 (w.heap.size + 2) 0 (zp Z 1766847064778384329583297500742918514498255901090703085217799141012275200) (zp Z 1329227995784915872903807060280344575) _ E_t0.out E_t2.out E_t0.out.room).mono ?_
  rintro e w19 ⟨rfl, hE, hU⟩
  have hE' : E5 w19 w.heap.size 0 (zp Z 1766847064778384329583297500742918515827483896875618958121606201292619775) := hE.cg (zp_mul Z (by decide +kernel))
  replace V : Hid (Room w19 bv ov) := hid (V.out.keep hU (Or.inl (by omega)))
  replace E_t1 := hid (E_t1.out.keep hU (Or.inl (by omega)))
  replace E_t2 := hid (E_t2.out.keep hU (Or.inl (by omega)))
  replace E_z := hid (E_z.out.keep hU (Or.inl (by omega)))
  replace E_t0 : Hid (E5 w19 w.heap.size 0 (zp Z 1766847064778384329583297500742918515827483896875618958121606201292619775)) := hid hE'
  replace UB : Hid (Below w.heap.size w w19) := hid (UB.out.trans (hU.below (by omega) (by have := SZ.out; omega)))
  replace SZ : Hid (w.heap.size + 3 ≤ w19.heap.size) := hid (Nat.le_trans SZ.out hU.size)
  clear hE hE' hU
  go_wp2_with fail
  refine (SquareN_any w.heap.size 0 w.heap.size 0 10 (zp Z 1766847064778384329583297500742918515827483896875618958121606201292619775) _ E_t0.out E_t0.out.room (by decide)).mono ?_
  rintro e w20 ⟨rfl, hE, hU⟩
  have hE' : E5 w20 w.heap.size 0 (zp Z 1809251394333065553493296640760748560207343510400633813116524750123642649600) := hE.cg (zp_sq Z (by decide +kernel))
  replace V : Hid (Room w20 bv ov) := hid (V.out.keep hU (Or.inl (by omega)))
  replace E_t1 := hid (E_t1.out.keep hU (Or.inl (by omega)))
  replace E_t2 := hid (E_t2.out.keep hU (Or.inl (by omega)))
  replace E_z := hid (E_z.out.keep hU (Or.inl (by omega)))
  replace E_t0 : Hid (E5 w20 w.heap.size 0 (zp Z 1809251394333065553493296640760748560207343510400633813116524750123642649600)) := hid hE'
  replace UB : Hid (Below w.heap.size w w20) := hid (UB.out.trans (hU.below (by omega) (by have := SZ.out; omega)))
  replace SZ : Hid (w.heap.size + 3 ≤ w20.heap.size) := hid (Nat.le_trans SZ.out hU.size)
  clear hE hE' hU
  go_wp2_with fail
  refine (Multiply_any w.heap.size 0 w.heap.size 0 (w.heap.size + 1) 0 (zp Z 1809251394333065553493296640760748560207343510400633813116524750123642649600) (zp Z 1023) _ E_t0.out E_t1.out E_t0.out.room).mono ?_
  rintro e w21 ⟨rfl, hE, hU⟩
  have hE' : E5 w21 w.heap.size 0 (zp Z 1809251394333065553493296640760748560207343510400633813116524750123642650623) := hE.cg (zp_mul Z (by decide +kernel))
  replace V : Hid (Room w21 bv ov) := hid (V.out.keep hU (Or.inl (by omega)))
  replace E_t1 := hid (E_t1.out.keep hU (Or.inl (by omega)))
  replace E_t2 := hid (E_t2.out.keep hU (Or.inl (by omega)))
  replace E_z := hid (E_z.out.keep hU (Or.inl (by omega)))
  replace E_t0 : Hid (E5 w21 w.heap.size 0 (zp Z 1809251394333065553493296640760748560207343510400633813116524750123642650623)) := hid hE'
  replace UB : Hid (Below w.heap.size w w21) := hid (UB.out.trans (hU.below (by omega) (by have := SZ.out; omega)))
  replace SZ : Hid (w.heap.size + 3 ≤ w21.heap.size) := hid (Nat.le_trans SZ.out hU.size)
  clear hE hE' hU
  go_wp2_with fail
  refine (SquareN_any w.heap.size 0 w.heap.size 0 2 (zp Z 1809251394333065553493296640760748560207343510400633813116524750123642650623) _ E_t0.out E_t0.out.room (by decide)).mono ?_
  rintro e w22 ⟨rfl, hE, hU⟩
  have hE' : E5 w22 w.heap.size 0 (zp Z 7237005577332262213973186563042994240829374041602535252466099000494570602492) := hE.cg (zp_sq Z (by decide +kernel))
  replace V : Hid (Room w22 bv ov) := hid (V.out.keep hU (Or.inl (by omega)))
  replace E_t1 := hid (E_t1.out.keep hU (Or.inl (by omega)))
  replace E_t2 := hid (E_t2.out.keep hU (Or.inl (by omega)))
  replace E_z := hid (E_z.out.keep hU (Or.inl (by omega)))
  replace E_t0 : Hid (E5 w22 w.heap.size 0 (zp Z 7237005577332262213973186563042994240829374041602535252466099000494570602492)) := hid hE'
  replace UB : Hid (Below w.heap.size w w22) := hid (UB.out.trans (hU.below (by omega) (by have := SZ.out; omega)))
  replace SZ : Hid (w.heap.size + 3 ≤ w22.heap.size) := hid (Nat.le_trans SZ.out hU.size)
  clear hE hE' hU
  go_wp2_with fail
  refine (Multiply_any bv ov w.heap.size 0 bz oz (zp Z 7237005577332262213973186563042994240829374041602535252466099000494570602492) (zp Z 1) _ E_t0.out E_z.out V.out).mono ?_
  rintro e w23 ⟨rfl, hE, hU⟩
  have hE' : E5 w23 bv ov (zp Z 7237005577332262213973186563042994240829374041602535252466099000494570602493) := hE.cg (zp_mul Z (by decide +kernel))
  have Q : Hid (E5 w23 bv ov (zp Z 7237005577332262213973186563042994240829374041602535252466099000494570602493) ∧ Upd w w23 bv ov 5) := hid ⟨hE', (Upd.of_below bv ov 5 UB.out ltv).trans hU⟩
  clear hE hE' hU
  go_wp2_with fail
  go_ret
  exact ⟨rfl, Q.out⟩
end Go.Proofs.YtflmkgecgijncaaDoor

namespace Go.Proofs.YtflmkgecgijncaaDoor
open Go.RowKit Go.Shelf

theorem or_none (a : Int) (h : 0 ≤ a) (h' : a < 18446744073709551616) : bits .or .u64 a 0 = a := by
  have := or_u64 0 (by decide) a 0 h (by simp) h' (by decide) (by decide)
  simpa using this
theorem or_none' (a : Int) (h : 0 ≤ a) (h' : a < 18446744073709551616) : bits .or .u64 0 a = a := by
  have := or_u64 64 (by decide) 0 a (by decide) (by simp) (by decide) h (by simpa using h')
  simpa using this


set_option maxRecDepth 100000 in
set_option maxHeartbeats 4000000 in
theorem Select1_any (bv ov ba oa bb ob : Nat) (A B : Int) (w : World) (ha : E5 w ba oa A) (hb : E5 w bb ob B) (hv : Room w bv ov) (alA : Al bv ov ba oa) (alB : Al bv ov bb ob) :
    Calls Tryd.prog 88 #[.pointer (some ⟨bv, ov, none⟩), .pointer (some ⟨ba, oa, none⟩), .pointer (some ⟨bb, ob, none⟩), .int .i64 1] w (Did w bv ov A (.pointer (some ⟨bv, ov, none⟩))) := by
  have lta := ha.lt
  have ltb := hb.lt
  have ltv := hv.lt
  obtain ⟨⟨a0, a1, a2, a3, a4, ⟨ca0, ca1, ca2, ca3, ca4⟩, TA0, cgA⟩, -⟩ := ha
  obtain ⟨⟨b0, b1, b2, b3, b4, ⟨cb0, cb1, cb2, cb3, cb4⟩, TB0, cgB⟩, -⟩ := hb
  have TA : Hid (Tight a0 a1 a2 a3 a4) := hid TA0
  obtain ⟨⟨la0, ua0⟩, ⟨la1, ua1⟩, ⟨la2, ua2⟩, ⟨la3, ua3⟩, ⟨la4, ua4⟩⟩ := TA0
  obtain ⟨⟨lb0, ub0⟩, ⟨lb1, ub1⟩, ⟨lb2, ub2⟩, ⟨lb3, ub3⟩, ⟨lb4, ub4⟩⟩ := TB0
  obtain ⟨⟨z0, z1, z2, z3, z4, g0, g1, g2, g3, g4⟩, hfree⟩ := hv
  have HF : Hid (Free w bv ov) := hid hfree
  obtain ⟨f0, f1, f2, f3, f4⟩ := hfree
  have Ca0 : Hid (w.cell? ⟨ba, oa, none⟩ = some (.int .u64 a0)) := hid ca0
  have Ca1 : Hid (w.cell? ⟨ba, oa + 1, none⟩ = some (.int .u64 a1)) := hid ca1
  have Ca2 : Hid (w.cell? ⟨ba, oa + 2, none⟩ = some (.int .u64 a2)) := hid ca2
  have Ca3 : Hid (w.cell? ⟨ba, oa + 3, none⟩ = some (.int .u64 a3)) := hid ca3
  have Ca4 : Hid (w.cell? ⟨ba, oa + 4, none⟩ = some (.int .u64 a4)) := hid ca4
  have Cb0 : Hid (w.cell? ⟨bb, ob, none⟩ = some (.int .u64 b0)) := hid cb0
  have Cb1 : Hid (w.cell? ⟨bb, ob + 1, none⟩ = some (.int .u64 b1)) := hid cb1
  have Cb2 : Hid (w.cell? ⟨bb, ob + 2, none⟩ = some (.int .u64 b2)) := hid cb2
  have Cb3 : Hid (w.cell? ⟨bb, ob + 3, none⟩ = some (.int .u64 b3)) := hid cb3
  have Cb4 : Hid (w.cell? ⟨bb, ob + 4, none⟩ = some (.int .u64 b4)) := hid cb4
  have G0 : Hid (w.cell? ⟨bv, ov, none⟩ = some (.int .u64 z0)) := hid g0
  have F0 : Hid (w.frozen? ⟨bv, ov, none⟩ = false) := hid f0
  have G1 : Hid (w.cell? ⟨bv, ov + 1, none⟩ = some (.int .u64 z1)) := hid g1
  have F1 : Hid (w.frozen? ⟨bv, ov + 1, none⟩ = false) := hid f1
  have G2 : Hid (w.cell? ⟨bv, ov + 2, none⟩ = some (.int .u64 z2)) := hid g2
  have F2 : Hid (w.frozen? ⟨bv, ov + 2, none⟩ = false) := hid f2
  have G3 : Hid (w.cell? ⟨bv, ov + 3, none⟩ = some (.int .u64 z3)) := hid g3
  have F3 : Hid (w.frozen? ⟨bv, ov + 3, none⟩ = false) := hid f3
  have G4 : Hid (w.cell? ⟨bv, ov + 4, none⟩ = some (.int .u64 z4)) := hid g4
  have F4 : Hid (w.frozen? ⟨bv, ov + 4, none⟩ = false) := hid f4
  have CA : Hid (Cg (val a0 a1 a2 a3 a4) A) := hid cgA
  have ALA : Hid (Al bv ov ba oa) := hid alA
  have ALB : Hid (Al bv ov bb ob) := hid alB
  have LTA : Hid (ba < w.heap.size) := hid lta
  have LTB : Hid (bb < w.heap.size) := hid ltb
  have LTV : Hid (bv < w.heap.size) := hid ltv
  clear ca0 cb0 g0 f0 ca1 cb1 g1 f1 ca2 cb2 g2 f2 ca3 cb3 g3 f3 ca4 cb4 g4 f4 cgA cgB alA alB lta ltb ltv
  have S0 := Acc.start w bv ov (fun j => match j with | 0 => a0 | 1 => a1 | 2 => a2 | 3 => a3 | _ => a4)
  generalize hc : ((fun j => match j with | 0 => a0 | 1 => a1 | 2 => a2 | 3 => a3 | _ => a4) : Nat → Int) = c at S0
  have K0 : Hid (a0 = c 0) := hid (congrFun hc 0)
  have K1 : Hid (a1 = c 1) := hid (congrFun hc 1)
  have K2 : Hid (a2 = c 2) := hid (congrFun hc 2)
  have K3 : Hid (a3 = c 3) := hid (congrFun hc 3)
  have K4 : Hid (a4 = c 4) := hid (congrFun hc 4)
  clear hc
  go_enter Tryd.func88, Tryd.ntmps88
  go_wp2_with fail
  refine (mask1 _).mono ?_
  rintro e w1 ⟨rfl, rfl⟩
  go_wp2_with fail
  have e0 : bits .xor .u64 IntKind.u64.max 18446744073709551615 = 0 := by decide +kernel
  have ra : w.cell? ⟨ba, oa, none⟩ = some (.int .u64 a0) := S0.cell ALA.out LTA.out 0 (by decide) (by decide) Ca0.out
  have rb : w.cell? ⟨bb, ob, none⟩ = some (.int .u64 b0) := S0.cell ALB.out LTB.out 0 (by decide) (by decide) Cb0.out
  have rv : w.cell? ⟨bv, ov, none⟩ = some (.int .u64 z0) := S0.cell (Or.inl ⟨rfl, rfl⟩) LTV.out 0 (by decide) (by decide) G0.out
  have rf : w.frozen? ⟨bv, ov, none⟩ = false := S0.frozen _ F0.out
  have e1 := and_all a0 la0 (by omega)
  have e2 := and_none b0 lb0 (by omega)
  have e3 := or_none a0 la0 (by omega)
  go_region
  simp only [show IntKind.u64.signed = false from rfl, Bool.false_eq_true, if_false, e0, e2, e3]
  have S1 : Acc w (w.setCell ⟨bv, ov, none⟩ (.int .u64 a0)).drew bv ov 1 c := S0.step (by rw [show ov + 0 = ov from rfl, rv]; rfl) K0.out
  generalize (w.setCell ⟨bv, ov, none⟩ (.int .u64 a0)).drew = W0 at S1 ⊢
  clear ra rb rv rf e1 e2 e3 S0
  go_wp2_with fail
  have ra : W0.cell? ⟨ba, oa + 1, none⟩ = some (.int .u64 a1) := S1.cell ALA.out LTA.out 1 (by decide) (by decide) Ca1.out
  have rb : W0.cell? ⟨bb, ob + 1, none⟩ = some (.int .u64 b1) := S1.cell ALB.out LTB.out 1 (by decide) (by decide) Cb1.out
  have rv : W0.cell? ⟨bv, ov + 1, none⟩ = some (.int .u64 z1) := S1.cell (Or.inl ⟨rfl, rfl⟩) LTV.out 1 (by decide) (by decide) G1.out
  have rf : W0.frozen? ⟨bv, ov + 1, none⟩ = false := S1.frozen _ F1.out
  have e1 := and_all a1 la1 (by omega)
  have e2 := and_none b1 lb1 (by omega)
  have e3 := or_none a1 la1 (by omega)
  go_region
  simp only [show IntKind.u64.signed = false from rfl, Bool.false_eq_true, if_false, e0, e2, e3]
  have S2 : Acc w (W0.setCell ⟨bv, ov + 1, none⟩ (.int .u64 a1)).drew bv ov 2 c := S1.step (by rw [show ov + 1 = ov + 1 from rfl, rv]; rfl) K1.out
  generalize (W0.setCell ⟨bv, ov + 1, none⟩ (.int .u64 a1)).drew = W1 at S2 ⊢
  clear ra rb rv rf e1 e2 e3 S1
  go_wp2_with fail
  have ra : W1.cell? ⟨ba, oa + 2, none⟩ = some (.int .u64 a2) := S2.cell ALA.out LTA.out 2 (by decide) (by decide) Ca2.out
  have rb : W1.cell? ⟨bb, ob + 2, none⟩ = some (.int .u64 b2) := S2.cell ALB.out LTB.out 2 (by decide) (by decide) Cb2.out
  have rv : W1.cell? ⟨bv, ov + 2, none⟩ = some (.int .u64 z2) := S2.cell (Or.inl ⟨rfl, rfl⟩) LTV.out 2 (by decide) (by decide) G2.out
  have rf : W1.frozen? ⟨bv, ov + 2, none⟩ = false := S2.frozen _ F2.out
  have e1 := and_all a2 la2 (by omega)
  have e2 := and_none b2 lb2 (by omega)
  have e3 := or_none a2 la2 (by omega)
  go_region
  simp only [show IntKind.u64.signed = false from rfl, Bool.false_eq_true, if_false, e0, e2, e3]
  have S3 : Acc w (W1.setCell ⟨bv, ov + 2, none⟩ (.int .u64 a2)).drew bv ov 3 c := S2.step (by rw [show ov + 2 = ov + 2 from rfl, rv]; rfl) K2.out
  generalize (W1.setCell ⟨bv, ov + 2, none⟩ (.int .u64 a2)).drew = W2 at S3 ⊢
  clear ra rb rv rf e1 e2 e3 S2
  go_wp2_with fail
  have ra : W2.cell? ⟨ba, oa + 3, none⟩ = some (.int .u64 a3) := S3.cell ALA.out LTA.out 3 (by decide) (by decide) Ca3.out
  have rb : W2.cell? ⟨bb, ob + 3, none⟩ = some (.int .u64 b3) := S3.cell ALB.out LTB.out 3 (by decide) (by decide) Cb3.out
  have rv : W2.cell? ⟨bv, ov + 3, none⟩ = some (.int .u64 z3) := S3.cell (Or.inl ⟨rfl, rfl⟩) LTV.out 3 (by decide) (by decide) G3.out
  have rf : W2.frozen? ⟨bv, ov + 3, none⟩ = false := S3.frozen _ F3.out
  have e1 := and_all a3 la3 (by omega)
  have e2 := and_none b3 lb3 (by omega)
  have e3 := or_none a3 la3 (by omega)
  go_region
  simp only [show IntKind.u64.signed = false from rfl, Bool.false_eq_true, if_false, e0, e2, e3]
  have S4 : Acc w (W2.setCell ⟨bv, ov + 3, none⟩ (.int .u64 a3)).drew bv ov 4 c := S3.step (by rw [show ov + 3 = ov + 3 from rfl, rv]; rfl) K3.out
  generalize (W2.setCell ⟨bv, ov + 3, none⟩ (.int .u64 a3)).drew = W3 at S4 ⊢
  clear ra rb rv rf e1 e2 e3 S3
  go_wp2_with fail
  have ra : W3.cell? ⟨ba, oa + 4, none⟩ = some (.int .u64 a4) := S4.cell ALA.out LTA.out 4 (by decide) (by decide) Ca4.out
  have rb : W3.cell? ⟨bb, ob + 4, none⟩ = some (.int .u64 b4) := S4.cell ALB.out LTB.out 4 (by decide) (by decide) Cb4.out
  have rv : W3.cell? ⟨bv, ov + 4, none⟩ = some (.int .u64 z4) := S4.cell (Or.inl ⟨rfl, rfl⟩) LTV.out 4 (by decide) (by decide) G4.out
  have rf : W3.frozen? ⟨bv, ov + 4, none⟩ = false := S4.frozen _ F4.out
  have e1 := and_all a4 la4 (by omega)
  have e2 := and_none b4 lb4 (by omega)
  have e3 := or_none a4 la4 (by omega)
  go_region
  simp only [show IntKind.u64.signed = false from rfl, Bool.false_eq_true, if_false, e0, e2, e3]
  have S5 : Acc w (W3.setCell ⟨bv, ov + 4, none⟩ (.int .u64 a4)).drew bv ov 5 c := S4.step (by rw [show ov + 4 = ov + 4 from rfl, rv]; rfl) K4.out
  generalize (W3.setCell ⟨bv, ov + 4, none⟩ (.int .u64 a4)).drew = W4 at S5 ⊢
  clear ra rb rv rf e1 e2 e3 S4
  go_wp2_with fail
  go_ret
  have HL := S5.limbs
  rw [← K0.out, ← K1.out, ← K2.out, ← K3.out, ← K4.out] at HL
  exact ⟨rfl, ⟨⟨_, _, _, _, _, HL, TA.out, CA.out⟩, S5.upd.free LTV.out HF.out⟩, S5.upd⟩

set_option maxRecDepth 100000 in
set_option maxHeartbeats 4000000 in
theorem Select0_any (bv ov ba oa bb ob : Nat) (A B : Int) (w : World) (ha : E5 w ba oa A) (hb : E5 w bb ob B) (hv : Room w bv ov) (alA : Al bv ov ba oa) (alB : Al bv ov bb ob) :
    Calls Tryd.prog 88 #[.pointer (some ⟨bv, ov, none⟩), .pointer (some ⟨ba, oa, none⟩), .pointer (some ⟨bb, ob, none⟩), .int .i64 0] w (Did w bv ov B (.pointer (some ⟨bv, ov, none⟩))) := by
  have lta := ha.lt
  have ltb := hb.lt
  have ltv := hv.lt
  obtain ⟨⟨a0, a1, a2, a3, a4, ⟨ca0, ca1, ca2, ca3, ca4⟩, TA0, cgA⟩, -⟩ := ha
  obtain ⟨⟨b0, b1, b2, b3, b4, ⟨cb0, cb1, cb2, cb3, cb4⟩, TB0, cgB⟩, -⟩ := hb
  have TB : Hid (Tight b0 b1 b2 b3 b4) := hid TB0
  obtain ⟨⟨la0, ua0⟩, ⟨la1, ua1⟩, ⟨la2, ua2⟩, ⟨la3, ua3⟩, ⟨la4, ua4⟩⟩ := TA0
  obtain ⟨⟨lb0, ub0⟩, ⟨lb1, ub1⟩, ⟨lb2, ub2⟩, ⟨lb3, ub3⟩, ⟨lb4, ub4⟩⟩ := TB0
  obtain ⟨⟨z0, z1, z2, z3, z4, g0, g1, g2, g3, g4⟩, hfree⟩ := hv
  have HF : Hid (Free w bv ov) := hid hfree
  obtain ⟨f0, f1, f2, f3, f4⟩ := hfree
  have Ca0 : Hid (w.cell? ⟨ba, oa, none⟩ = some (.int .u64 a0)) := hid ca0
  have Ca1 : Hid (w.cell? ⟨ba, oa + 1, none⟩ = some (.int .u64 a1)) := hid ca1
  have Ca2 : Hid (w.cell? ⟨ba, oa + 2, none⟩ = some (.int .u64 a2)) := hid ca2
  have Ca3 : Hid (w.cell? ⟨ba, oa + 3, none⟩ = some (.int .u64 a3)) := hid ca3
  have Ca4 : Hid (w.cell? ⟨ba, oa + 4, none⟩ = some (.int .u64 a4)) := hid ca4
  have Cb0 : Hid (w.cell? ⟨bb, ob, none⟩ = some (.int .u64 b0)) := hid cb0
  have Cb1 : Hid (w.cell? ⟨bb, ob + 1, none⟩ = some (.int .u64 b1)) := hid cb1
  have Cb2 : Hid (w.cell? ⟨bb, ob + 2, none⟩ = some (.int .u64 b2)) := hid cb2
  have Cb3 : Hid (w.cell? ⟨bb, ob + 3, none⟩ = some (.int .u64 b3)) := hid cb3
  have Cb4 : Hid (w.cell? ⟨bb, ob + 4, none⟩ = some (.int .u64 b4)) := hid cb4
  have G0 : Hid (w.cell? ⟨bv, ov, none⟩ = some (.int .u64 z0)) := hid g0
  have F0 : Hid (w.frozen? ⟨bv, ov, none⟩ = false) := hid f0
  have G1 : Hid (w.cell? ⟨bv, ov + 1, none⟩ = some (.int .u64 z1)) := hid g1
  have F1 : Hid (w.frozen? ⟨bv, ov + 1, none⟩ = false) := hid f1
  have G2 : Hid (w.cell? ⟨bv, ov + 2, none⟩ = some (.int .u64 z2)) := hid g2
  have F2 : Hid (w.frozen? ⟨bv, ov + 2, none⟩ = false) := hid f2
  have G3 : Hid (w.cell? ⟨bv, ov + 3, none⟩ = some (.int .u64 z3)) := hid g3
  have F3 : Hid (w.frozen? ⟨bv, ov + 3, none⟩ = false) := hid f3
  have G4 : Hid (w.cell? ⟨bv, ov + 4, none⟩ = some (.int .u64 z4)) := hid g4
  have F4 : Hid (w.frozen? ⟨bv, ov + 4, none⟩ = false) := hid f4
  have CB : Hid (Cg (val b0 b1 b2 b3 b4) B) := hid cgB
  have ALA : Hid (Al bv ov ba oa) := hid alA
  have ALB : Hid (Al bv ov bb ob) := hid alB
  have LTA : Hid (ba < w.heap.size) := hid lta
  have LTB : Hid (bb < w.heap.size) := hid ltb
  have LTV : Hid (bv < w.heap.size) := hid ltv
  clear ca0 cb0 g0 f0 ca1 cb1 g1 f1 ca2 cb2 g2 f2 ca3 cb3 g3 f3 ca4 cb4 g4 f4 cgA cgB alA alB lta ltb ltv
  have S0 := Acc.start w bv ov (fun j => match j with | 0 => b0 | 1 => b1 | 2 => b2 | 3 => b3 | _ => b4)
  generalize hc : ((fun j => match j with | 0 => b0 | 1 => b1 | 2 => b2 | 3 => b3 | _ => b4) : Nat → Int) = c at S0
  have K0 : Hid (b0 = c 0) := hid (congrFun hc 0)
  have K1 : Hid (b1 = c 1) := hid (congrFun hc 1)
  have K2 : Hid (b2 = c 2) := hid (congrFun hc 2)
  have K3 : Hid (b3 = c 3) := hid (congrFun hc 3)
  have K4 : Hid (b4 = c 4) := hid (congrFun hc 4)
  clear hc
  go_enter Tryd.func88, Tryd.ntmps88
  go_wp2_with fail
  refine (mask0 _).mono ?_
  rintro e w1 ⟨rfl, rfl⟩
  go_wp2_with fail
  have e0 : bits .xor .u64 IntKind.u64.max 0 = 18446744073709551615 := by decide +kernel
  have ra : w.cell? ⟨ba, oa, none⟩ = some (.int .u64 a0) := S0.cell ALA.out LTA.out 0 (by decide) (by decide) Ca0.out
  have rb : w.cell? ⟨bb, ob, none⟩ = some (.int .u64 b0) := S0.cell ALB.out LTB.out 0 (by decide) (by decide) Cb0.out
  have rv : w.cell? ⟨bv, ov, none⟩ = some (.int .u64 z0) := S0.cell (Or.inl ⟨rfl, rfl⟩) LTV.out 0 (by decide) (by decide) G0.out
  have rf : w.frozen? ⟨bv, ov, none⟩ = false := S0.frozen _ F0.out
  have e1 := and_none a0 la0 (by omega)
  have e2 := and_all b0 lb0 (by omega)
  have e3 := or_none' b0 lb0 (by omega)
  go_region
  simp only [show IntKind.u64.signed = false from rfl, Bool.false_eq_true, if_false, e0, e2, e3]
  have S1 : Acc w (w.setCell ⟨bv, ov, none⟩ (.int .u64 b0)).drew bv ov 1 c := S0.step (by rw [show ov + 0 = ov from rfl, rv]; rfl) K0.out
  generalize (w.setCell ⟨bv, ov, none⟩ (.int .u64 b0)).drew = W0 at S1 ⊢
  clear ra rb rv rf e1 e2 e3 S0
  go_wp2_with fail
  have ra : W0.cell? ⟨ba, oa + 1, none⟩ = some (.int .u64 a1) := S1.cell ALA.out LTA.out 1 (by decide) (by decide) Ca1.out
  have rb : W0.cell? ⟨bb, ob + 1, none⟩ = some (.int .u64 b1) := S1.cell ALB.out LTB.out 1 (by decide) (by decide) Cb1.out
  have rv : W0.cell? ⟨bv, ov + 1, none⟩ = some (.int .u64 z1) := S1.cell (Or.inl ⟨rfl, rfl⟩) LTV.out 1 (by decide) (by decide) G1.out
  have rf : W0.frozen? ⟨bv, ov + 1, none⟩ = false := S1.frozen _ F1.out
  have e1 := and_none a1 la1 (by omega)
  have e2 := and_all b1 lb1 (by omega)
  have e3 := or_none' b1 lb1 (by omega)
  go_region
  simp only [show IntKind.u64.signed = false from rfl, Bool.false_eq_true, if_false, e0, e2, e3]
  have S2 : Acc w (W0.setCell ⟨bv, ov + 1, none⟩ (.int .u64 b1)).drew bv ov 2 c := S1.step (by rw [show ov + 1 = ov + 1 from rfl, rv]; rfl) K1.out
  generalize (W0.setCell ⟨bv, ov + 1, none⟩ (.int .u64 b1)).drew = W1 at S2 ⊢
  clear ra rb rv rf e1 e2 e3 S1
  go_wp2_with fail
  have ra : W1.cell? ⟨ba, oa + 2, none⟩ = some (.int .u64 a2) := S2.cell ALA.out LTA.out 2 (by decide) (by decide) Ca2.out
  have rb : W1.cell? ⟨bb, ob + 2, none⟩ = some (.int .u64 b2) := S2.cell ALB.out LTB.out 2 (by decide) (by decide) Cb2.out
  have rv : W1.cell? ⟨bv, ov + 2, none⟩ = some (.int .u64 z2) := S2.cell (Or.inl ⟨rfl, rfl⟩) LTV.out 2 (by decide) (by decide) G2.out
  have rf : W1.frozen? ⟨bv, ov + 2, none⟩ = false := S2.frozen _ F2.out
  have e1 := and_none a2 la2 (by omega)
  have e2 := and_all b2 lb2 (by omega)
  have e3 := or_none' b2 lb2 (by omega)
  go_region
  simp only [show IntKind.u64.signed = false from rfl, Bool.false_eq_true, if_false, e0, e2, e3]
  have S3 : Acc w (W1.setCell ⟨bv, ov + 2, none⟩ (.int .u64 b2)).drew bv ov 3 c := S2.step (by rw [show ov + 2 = ov + 2 from rfl, rv]; rfl) K2.out
  generalize (W1.setCell ⟨bv, ov + 2, none⟩ (.int .u64 b2)).drew = W2 at S3 ⊢
  clear ra rb rv rf e1 e2 e3 S2
  go_wp2_with fail
  have ra : W2.cell? ⟨ba, oa + 3, none⟩ = some (.int .u64 a3) := S3.cell ALA.out LTA.out 3 (by decide) (by decide) Ca3.out
  have rb : W2.cell? ⟨bb, ob + 3, none⟩ = some (.int .u64 b3) := S3.cell ALB.out LTB.out 3 (by decide) (by decide) Cb3.out
  have rv : W2.cell? ⟨bv, ov + 3, none⟩ = some (.int .u64 z3) := S3.cell (Or.inl ⟨rfl, rfl⟩) LTV.out 3 (by decide) (by decide) G3.out
  have rf : W2.frozen? ⟨bv, ov + 3, none⟩ = false := S3.frozen _ F3.out
  have e1 := and_none a3 la3 (by omega)
  have e2 := and_all b3 lb3 (by omega)
  have e3 := or_none' b3 lb3 (by omega)
  go_region
  simp only [show IntKind.u64.signed = false from rfl, Bool.false_eq_true, if_false, e0, e2, e3]
  have S4 : Acc w (W2.setCell ⟨bv, ov + 3, none⟩ (.int .u64 b3)).drew bv ov 4 c := S3.step (by rw [show ov + 3 = ov + 3 from rfl, rv]; rfl) K3.out
  generalize (W2.setCell ⟨bv, ov + 3, none⟩ (.int .u64 b3)).drew = W3 at S4 ⊢
  clear ra rb rv rf e1 e2 e3 S3
  go_wp2_with fail
  have ra : W3.cell? ⟨ba, oa + 4, none⟩ = some (.int .u64 a4) := S4.cell ALA.out LTA.out 4 (by decide) (by decide) Ca4.out
  have rb : W3.cell? ⟨bb, ob + 4, none⟩ = some (.int .u64 b4) := S4.cell ALB.out LTB.out 4 (by decide) (by decide) Cb4.out
  have rv : W3.cell? ⟨bv, ov + 4, none⟩ = some (.int .u64 z4) := S4.cell (Or.inl ⟨rfl, rfl⟩) LTV.out 4 (by decide) (by decide) G4.out
  have rf : W3.frozen? ⟨bv, ov + 4, none⟩ = false := S4.frozen _ F4.out
  have e1 := and_none a4 la4 (by omega)
  have e2 := and_all b4 lb4 (by omega)
  have e3 := or_none' b4 lb4 (by omega)
  go_region
  simp only [show IntKind.u64.signed = false from rfl, Bool.false_eq_true, if_false, e0, e2, e3]
  have S5 : Acc w (W3.setCell ⟨bv, ov + 4, none⟩ (.int .u64 b4)).drew bv ov 5 c := S4.step (by rw [show ov + 4 = ov + 4 from rfl, rv]; rfl) K4.out
  generalize (W3.setCell ⟨bv, ov + 4, none⟩ (.int .u64 b4)).drew = W4 at S5 ⊢
  clear ra rb rv rf e1 e2 e3 S4
  go_wp2_with fail
  go_ret
  have HL := S5.limbs
  rw [← K0.out, ← K1.out, ← K2.out, ← K3.out, ← K4.out] at HL
  exact ⟨rfl, ⟨⟨_, _, _, _, _, HL, TB.out, CB.out⟩, S5.upd.free LTV.out HF.out⟩, S5.upd⟩

theorem Select_any (c : Bool) (bv ov ba oa bb ob : Nat) (A B : Int) (w : World) (ha : E5 w ba oa A) (hb : E5 w bb ob B) (hv : Room w bv ov) (alA : Al bv ov ba oa) (alB : Al bv ov bb ob) :
    Calls Tryd.prog 88 #[.pointer (some ⟨bv, ov, none⟩), .pointer (some ⟨ba, oa, none⟩), .pointer (some ⟨bb, ob, none⟩), .int .i64 (bi c)] w (Did w bv ov (sel c B A) (.pointer (some ⟨bv, ov, none⟩))) := by
  cases c
  · exact Select0_any bv ov ba oa bb ob A B w ha hb hv alA alB
  · exact Select1_any bv ov ba oa bb ob A B w ha hb hv alA alB
end Go.Proofs.YtflmkgecgijncaaDoor
