/-
  Invert: the (2^255 - 21)-th power. The walk was printed by gen_inv.py.
-/
import Derived.Test.YtflmkgecgijncaaDoorF14
namespace Go.Proofs.YtflmkgecgijncaaDoor
open Go.RowKit Go.Shelf

/-- Z to the k, closed to reckoning. -/
def zp (Z : Int) (k : Nat) : Int := Z ^ k
theorem zp_one (Z : Int) : zp Z 1 = Z := by unfold zp; rw [Int.pow_succ, Int.pow_zero, Int.one_mul]
theorem zp_mul (Z : Int) {a b c : Nat} (h : a + b = c) : Cg (zp Z a * zp Z b) (zp Z c) := by
  subst h; unfold zp; rw [← Int.pow_add]; exact Cg.refl _
theorem zp_sq (Z : Int) {a n c : Nat} (h : a * 2 ^ n = c) : Cg (zp Z a ^ (2 ^ n)) (zp Z c) := by
  subst h; unfold zp; rw [← Int.pow_mul]; exact Cg.refl _

theorem e5_new (w : World) : E5 (w.alloc (.cells #[.int .u64 0, .int .u64 0, .int .u64 0, .int .u64 0, .int .u64 0] 80)) w.heap.size 0 0 :=
  ⟨⟨0, 0, 0, 0, 0, by simp [Limbs, go_sem], ⟨by decide, by decide, by decide, by decide, by decide⟩, ⟨0, by decide⟩⟩, by simp [Free, go_sem]⟩

theorem E5.alloc {w : World} {b o : Nat} {X : Int} (h : E5 w b o X) (ob : Obj) : E5 (w.alloc ob) b o X := h.below ((Below.refl _ _).alloc (Nat.le_refl _) _) h.lt
theorem Room.alloc {w : World} {b o : Nat} (h : Room w b o) (ob : Obj) : Room (w.alloc ob) b o := h.below ((Below.refl _ _).alloc (Nat.le_refl _) _) h.lt

set_option maxRecDepth 100000 in
set_option maxHeartbeats 4000000 in
theorem Invert_any (bv ov bz oz : Nat) (Z : Int) (w : World) (hz : E5 w bz oz Z) (hv : Room w bv ov) :
    Calls Tryd.prog 71 #[.pointer (some ⟨bv, ov, none⟩), .pointer (some ⟨bz, oz, none⟩)] w (Did w bv ov (zp Z 57896044618658097711785492504343953926634992332820282019728792003956564819947) (.pointer (some ⟨bv, ov, none⟩))) := by
  have ltz := hz.lt
  have ltv := hv.lt
  have HV : Hid (Room w bv ov) := hid hv
  have HZ : Hid (E5 w bz oz (zp Z 1)) := hid (by rw [zp_one]; exact hz)
  clear hz hv
  go_enter Tryd.func71, Tryd.ntmps71
  go_wp2_with fail
  have E_z11 : Hid (E5 (((((w.alloc (.cells #[.int .u64 0, .int .u64 0, .int .u64 0, .int .u64 0, .int .u64 0] 80)).alloc (.cells #[.int .u64 0, .int .u64 0, .int .u64 0, .int .u64 0, .int .u64 0] 80)).alloc (.cells #[.int .u64 0, .int .u64 0, .int .u64 0, .int .u64 0, .int .u64 0] 80)).alloc (.cells #[.int .u64 0, .int .u64 0, .int .u64 0, .int .u64 0, .int .u64 0] 80)).alloc (.cells #[.int .u64 0, .int .u64 0, .int .u64 0, .int .u64 0, .int .u64 0] 80)) w.heap.size 0 0) := hid (by have := (((((e5_new w).alloc (.cells #[.int .u64 0, .int .u64 0, .int .u64 0, .int .u64 0, .int .u64 0] 80)).alloc (.cells #[.int .u64 0, .int .u64 0, .int .u64 0, .int .u64 0, .int .u64 0] 80)).alloc (.cells #[.int .u64 0, .int .u64 0, .int .u64 0, .int .u64 0, .int .u64 0] 80)).alloc (.cells #[.int .u64 0, .int .u64 0, .int .u64 0, .int .u64 0, .int .u64 0] 80)); simpa using this)
  have E_t0 : Hid (E5 (((((w.alloc (.cells #[.int .u64 0, .int .u64 0, .int .u64 0, .int .u64 0, .int .u64 0] 80)).alloc (.cells #[.int .u64 0, .int .u64 0, .int .u64 0, .int .u64 0, .int .u64 0] 80)).alloc (.cells #[.int .u64 0, .int .u64 0, .int .u64 0, .int .u64 0, .int .u64 0] 80)).alloc (.cells #[.int .u64 0, .int .u64 0, .int .u64 0, .int .u64 0, .int .u64 0] 80)).alloc (.cells #[.int .u64 0, .int .u64 0, .int .u64 0, .int .u64 0, .int .u64 0] 80)) (w.heap.size + 1) 0 0) := hid (by have := ((((e5_new (w.alloc (.cells #[.int .u64 0, .int .u64 0, .int .u64 0, .int .u64 0, .int .u64 0] 80))).alloc (.cells #[.int .u64 0, .int .u64 0, .int .u64 0, .int .u64 0, .int .u64 0] 80)).alloc (.cells #[.int .u64 0, .int .u64 0, .int .u64 0, .int .u64 0, .int .u64 0] 80)).alloc (.cells #[.int .u64 0, .int .u64 0, .int .u64 0, .int .u64 0, .int .u64 0] 80)); simpa using this)
  have E_t1 : Hid (E5 (((((w.alloc (.cells #[.int .u64 0, .int .u64 0, .int .u64 0, .int .u64 0, .int .u64 0] 80)).alloc (.cells #[.int .u64 0, .int .u64 0, .int .u64 0, .int .u64 0, .int .u64 0] 80)).alloc (.cells #[.int .u64 0, .int .u64 0, .int .u64 0, .int .u64 0, .int .u64 0] 80)).alloc (.cells #[.int .u64 0, .int .u64 0, .int .u64 0, .int .u64 0, .int .u64 0] 80)).alloc (.cells #[.int .u64 0, .int .u64 0, .int .u64 0, .int .u64 0, .int .u64 0] 80)) (w.heap.size + 2) 0 0) := hid (by have := (((e5_new ((w.alloc (.cells #[.int .u64 0, .int .u64 0, .int .u64 0, .int .u64 0, .int .u64 0] 80)).alloc (.cells #[.int .u64 0, .int .u64 0, .int .u64 0, .int .u64 0, .int .u64 0] 80))).alloc (.cells #[.int .u64 0, .int .u64 0, .int .u64 0, .int .u64 0, .int .u64 0] 80)).alloc (.cells #[.int .u64 0, .int .u64 0, .int .u64 0, .int .u64 0, .int .u64 0] 80)); simpa using this)
  have E_t2 : Hid (E5 (((((w.alloc (.cells #[.int .u64 0, .int .u64 0, .int .u64 0, .int .u64 0, .int .u64 0] 80)).alloc (.cells #[.int .u64 0, .int .u64 0, .int .u64 0, .int .u64 0, .int .u64 0] 80)).alloc (.cells #[.int .u64 0, .int .u64 0, .int .u64 0, .int .u64 0, .int .u64 0] 80)).alloc (.cells #[.int .u64 0, .int .u64 0, .int .u64 0, .int .u64 0, .int .u64 0] 80)).alloc (.cells #[.int .u64 0, .int .u64 0, .int .u64 0, .int .u64 0, .int .u64 0] 80)) (w.heap.size + 3) 0 0) := hid (by have := ((e5_new (((w.alloc (.cells #[.int .u64 0, .int .u64 0, .int .u64 0, .int .u64 0, .int .u64 0] 80)).alloc (.cells #[.int .u64 0, .int .u64 0, .int .u64 0, .int .u64 0, .int .u64 0] 80)).alloc (.cells #[.int .u64 0, .int .u64 0, .int .u64 0, .int .u64 0, .int .u64 0] 80))).alloc (.cells #[.int .u64 0, .int .u64 0, .int .u64 0, .int .u64 0, .int .u64 0] 80)); simpa using this)
  have E_t : Hid (E5 (((((w.alloc (.cells #[.int .u64 0, .int .u64 0, .int .u64 0, .int .u64 0, .int .u64 0] 80)).alloc (.cells #[.int .u64 0, .int .u64 0, .int .u64 0, .int .u64 0, .int .u64 0] 80)).alloc (.cells #[.int .u64 0, .int .u64 0, .int .u64 0, .int .u64 0, .int .u64 0] 80)).alloc (.cells #[.int .u64 0, .int .u64 0, .int .u64 0, .int .u64 0, .int .u64 0] 80)).alloc (.cells #[.int .u64 0, .int .u64 0, .int .u64 0, .int .u64 0, .int .u64 0] 80)) (w.heap.size + 4) 0 0) := hid (by have := (e5_new ((((w.alloc (.cells #[.int .u64 0, .int .u64 0, .int .u64 0, .int .u64 0, .int .u64 0] 80)).alloc (.cells #[.int .u64 0, .int .u64 0, .int .u64 0, .int .u64 0, .int .u64 0] 80)).alloc (.cells #[.int .u64 0, .int .u64 0, .int .u64 0, .int .u64 0, .int .u64 0] 80)).alloc (.cells #[.int .u64 0, .int .u64 0, .int .u64 0, .int .u64 0, .int .u64 0] 80))); simpa using this)
  have E_z : Hid (E5 (((((w.alloc (.cells #[.int .u64 0, .int .u64 0, .int .u64 0, .int .u64 0, .int .u64 0] 80)).alloc (.cells #[.int .u64 0, .int .u64 0, .int .u64 0, .int .u64 0, .int .u64 0] 80)).alloc (.cells #[.int .u64 0, .int .u64 0, .int .u64 0, .int .u64 0, .int .u64 0] 80)).alloc (.cells #[.int .u64 0, .int .u64 0, .int .u64 0, .int .u64 0, .int .u64 0] 80)).alloc (.cells #[.int .u64 0, .int .u64 0, .int .u64 0, .int .u64 0, .int .u64 0] 80)) bz oz (zp Z 1)) := hid (((((HZ.out.alloc _).alloc _).alloc _).alloc _).alloc _)
  have V : Hid (Room (((((w.alloc (.cells #[.int .u64 0, .int .u64 0, .int .u64 0, .int .u64 0, .int .u64 0] 80)).alloc (.cells #[.int .u64 0, .int .u64 0, .int .u64 0, .int .u64 0, .int .u64 0] 80)).alloc (.cells #[.int .u64 0, .int .u64 0, .int .u64 0, .int .u64 0, .int .u64 0] 80)).alloc (.cells #[.int .u64 0, .int .u64 0, .int .u64 0, .int .u64 0, .int .u64 0] 80)).alloc (.cells #[.int .u64 0, .int .u64 0, .int .u64 0, .int .u64 0, .int .u64 0] 80)) bv ov) := hid (((((HV.out.alloc _).alloc _).alloc _).alloc _).alloc _)
  have UB : Hid (Below w.heap.size w (((((w.alloc (.cells #[.int .u64 0, .int .u64 0, .int .u64 0, .int .u64 0, .int .u64 0] 80)).alloc (.cells #[.int .u64 0, .int .u64 0, .int .u64 0, .int .u64 0, .int .u64 0] 80)).alloc (.cells #[.int .u64 0, .int .u64 0, .int .u64 0, .int .u64 0, .int .u64 0] 80)).alloc (.cells #[.int .u64 0, .int .u64 0, .int .u64 0, .int .u64 0, .int .u64 0] 80)).alloc (.cells #[.int .u64 0, .int .u64 0, .int .u64 0, .int .u64 0, .int .u64 0] 80))) := hid ((((((Below.refl _ _).alloc (Nat.le_refl _) _).alloc (by simp <;> omega) _).alloc (by simp <;> omega) _).alloc (by simp <;> omega) _).alloc (by simp <;> omega) _)
  have SZ : Hid (w.heap.size + 5 ≤ ((((((w.alloc (.cells #[.int .u64 0, .int .u64 0, .int .u64 0, .int .u64 0, .int .u64 0] 80)).alloc (.cells #[.int .u64 0, .int .u64 0, .int .u64 0, .int .u64 0, .int .u64 0] 80)).alloc (.cells #[.int .u64 0, .int .u64 0, .int .u64 0, .int .u64 0, .int .u64 0] 80)).alloc (.cells #[.int .u64 0, .int .u64 0, .int .u64 0, .int .u64 0, .int .u64 0] 80)).alloc (.cells #[.int .u64 0, .int .u64 0, .int .u64 0, .int .u64 0, .int .u64 0] 80))).heap.size) := hid (by simp)
  generalize (((((w.alloc (.cells #[.int .u64 0, .int .u64 0, .int .u64 0, .int .u64 0, .int .u64 0] 80)).alloc (.cells #[.int .u64 0, .int .u64 0, .int .u64 0, .int .u64 0, .int .u64 0] 80)).alloc (.cells #[.int .u64 0, .int .u64 0, .int .u64 0, .int .u64 0, .int .u64 0] 80)).alloc (.cells #[.int .u64 0, .int .u64 0, .int .u64 0, .int .u64 0, .int .u64 0] 80)).alloc (.cells #[.int .u64 0, .int .u64 0, .int .u64 0, .int .u64 0, .int .u64 0] 80)) = w0 at E_z11 E_t0 E_t1 E_t2 E_t E_z V UB SZ ⊢
  clear HZ HV
  refine (Square_any (w.heap.size + 2) 0 bz oz (zp Z 1) _ E_z.out E_t1.out.room).mono ?_
  rintro e w1 ⟨rfl, hE, hU⟩
  have hE' : E5 w1 (w.heap.size + 2) 0 (zp Z 2) := hE.cg (zp_mul Z (by decide +kernel))
  replace V : Hid (Room w1 bv ov) := hid (V.out.keep hU (Or.inl (by omega)))
  replace E_z11 := hid (E_z11.out.keep hU (Or.inl (by omega)))
  replace E_t0 := hid (E_t0.out.keep hU (Or.inl (by omega)))
  replace E_t2 := hid (E_t2.out.keep hU (Or.inl (by omega)))
  replace E_t := hid (E_t.out.keep hU (Or.inl (by omega)))
  replace E_z := hid (E_z.out.keep hU (Or.inl (by omega)))
  replace E_t1 : Hid (E5 w1 (w.heap.size + 2) 0 (zp Z 2)) := hid hE'
  replace UB : Hid (Below w.heap.size w w1) := hid (UB.out.trans (hU.below (by omega) (by have := SZ.out; omega)))
  replace SZ : Hid (w.heap.size + 5 ≤ w1.heap.size) := hid (Nat.le_trans SZ.out hU.size)
  clear hE hE' hU
  go_wp2_with fail
  refine (Square_any (w.heap.size + 4) 0 (w.heap.size + 2) 0 (zp Z 2) _ E_t1.out E_t.out.room).mono ?_
  rintro e w2 ⟨rfl, hE, hU⟩
  have hE' : E5 w2 (w.heap.size + 4) 0 (zp Z 4) := hE.cg (zp_mul Z (by decide +kernel))
  replace V : Hid (Room w2 bv ov) := hid (V.out.keep hU (Or.inl (by omega)))
  replace E_z11 := hid (E_z11.out.keep hU (Or.inl (by omega)))
  replace E_t0 := hid (E_t0.out.keep hU (Or.inl (by omega)))
  replace E_t1 := hid (E_t1.out.keep hU (Or.inl (by omega)))
  replace E_t2 := hid (E_t2.out.keep hU (Or.inl (by omega)))
  replace E_z := hid (E_z.out.keep hU (Or.inl (by omega)))
  replace E_t : Hid (E5 w2 (w.heap.size + 4) 0 (zp Z 4)) := hid hE'
  replace UB : Hid (Below w.heap.size w w2) := hid (UB.out.trans (hU.below (by omega) (by have := SZ.out; omega)))
  replace SZ : Hid (w.heap.size + 5 ≤ w2.heap.size) := hid (Nat.le_trans SZ.out hU.size)
  clear hE hE' hU
  go_wp2_with fail
  refine (Square_any (w.heap.size + 4) 0 (w.heap.size + 4) 0 (zp Z 4) _ E_t.out E_t.out.room).mono ?_
  rintro e w3 ⟨rfl, hE, hU⟩
  have hE' : E5 w3 (w.heap.size + 4) 0 (zp Z 8) := hE.cg (zp_mul Z (by decide +kernel))
  replace V : Hid (Room w3 bv ov) := hid (V.out.keep hU (Or.inl (by omega)))
  replace E_z11 := hid (E_z11.out.keep hU (Or.inl (by omega)))
  replace E_t0 := hid (E_t0.out.keep hU (Or.inl (by omega)))
  replace E_t1 := hid (E_t1.out.keep hU (Or.inl (by omega)))
  replace E_t2 := hid (E_t2.out.keep hU (Or.inl (by omega)))
  replace E_z := hid (E_z.out.keep hU (Or.inl (by omega)))
  replace E_t : Hid (E5 w3 (w.heap.size + 4) 0 (zp Z 8)) := hid hE'
  replace UB : Hid (Below w.heap.size w w3) := hid (UB.out.trans (hU.below (by omega) (by have := SZ.out; omega)))
  replace SZ : Hid (w.heap.size + 5 ≤ w3.heap.size) := hid (Nat.le_trans SZ.out hU.size)
  clear hE hE' hU
  go_wp2_with fail
  refine (Multiply_any (w.heap.size + 3) 0 (w.heap.size + 4) 0 bz oz (zp Z 8) (zp Z 1) _ E_t.out E_z.out E_t2.out.room).mono ?_
  rintro e w4 ⟨rfl, hE, hU⟩
  have hE' : E5 w4 (w.heap.size + 3) 0 (zp Z 9) := hE.cg (zp_mul Z (by decide +kernel))
  replace V : Hid (Room w4 bv ov) := hid (V.out.keep hU (Or.inl (by omega)))
  replace E_z11 := hid (E_z11.out.keep hU (Or.inl (by omega)))
  replace E_t0 := hid (E_t0.out.keep hU (Or.inl (by omega)))
  replace E_t1 := hid (E_t1.out.keep hU (Or.inl (by omega)))
  replace E_t := hid (E_t.out.keep hU (Or.inl (by omega)))
  replace E_z := hid (E_z.out.keep hU (Or.inl (by omega)))
  replace E_t2 : Hid (E5 w4 (w.heap.size + 3) 0 (zp Z 9)) := hid hE'
  replace UB : Hid (Below w.heap.size w w4) := hid (UB.out.trans (hU.below (by omega) (by have := SZ.out; omega)))
  replace SZ : Hid (w.heap.size + 5 ≤ w4.heap.size) := hid (Nat.le_trans SZ.out hU.size)
  clear hE hE' hU
  go_wp2_with fail
  refine (Multiply_any w.heap.size 0 (w.heap.size + 3) 0 (w.heap.size + 2) 0 (zp Z 9) (zp Z 2) _ E_t2.out E_t1.out E_z11.out.room).mono ?_
  rintro e w5 ⟨rfl, hE, hU⟩
  have hE' : E5 w5 w.heap.size 0 (zp Z 11) := hE.cg (zp_mul Z (by decide +kernel))
  replace V : Hid (Room w5 bv ov) := hid (V.out.keep hU (Or.inl (by omega)))
  replace E_t0 := hid (E_t0.out.keep hU (Or.inl (by omega)))
  replace E_t1 := hid (E_t1.out.keep hU (Or.inl (by omega)))
  replace E_t2 := hid (E_t2.out.keep hU (Or.inl (by omega)))
  replace E_t := hid (E_t.out.keep hU (Or.inl (by omega)))
  replace E_z := hid (E_z.out.keep hU (Or.inl (by omega)))
  replace E_z11 : Hid (E5 w5 w.heap.size 0 (zp Z 11)) := hid hE'
  replace UB : Hid (Below w.heap.size w w5) := hid (UB.out.trans (hU.below (by omega) (by have := SZ.out; omega)))
  replace SZ : Hid (w.heap.size + 5 ≤ w5.heap.size) := hid (Nat.le_trans SZ.out hU.size)
  clear hE hE' hU
  go_wp2_with fail
  refine (Square_any (w.heap.size + 4) 0 w.heap.size 0 (zp Z 11) _ E_z11.out E_t.out.room).mono ?_
  rintro e w6 ⟨rfl, hE, hU⟩
  have hE' : E5 w6 (w.heap.size + 4) 0 (zp Z 22) := hE.cg (zp_mul Z (by decide +kernel))
  replace V : Hid (Room w6 bv ov) := hid (V.out.keep hU (Or.inl (by omega)))
  replace E_z11 := hid (E_z11.out.keep hU (Or.inl (by omega)))
  replace E_t0 := hid (E_t0.out.keep hU (Or.inl (by omega)))
  replace E_t1 := hid (E_t1.out.keep hU (Or.inl (by omega)))
  replace E_t2 := hid (E_t2.out.keep hU (Or.inl (by omega)))
  replace E_z := hid (E_z.out.keep hU (Or.inl (by omega)))
  replace E_t : Hid (E5 w6 (w.heap.size + 4) 0 (zp Z 22)) := hid hE'
  replace UB : Hid (Below w.heap.size w w6) := hid (UB.out.trans (hU.below (by omega) (by have := SZ.out; omega)))
  replace SZ : Hid (w.heap.size + 5 ≤ w6.heap.size) := hid (Nat.le_trans SZ.out hU.size)
  clear hE hE' hU
  go_wp2_with fail
  refine (Multiply_any (w.heap.size + 1) 0 (w.heap.size + 4) 0 (w.heap.size + 3) 0 (zp Z 22) (zp Z 9) _ E_t.out E_t2.out E_t0.out.room).mono ?_
  rintro e w7 ⟨rfl, hE, hU⟩
  have hE' : E5 w7 (w.heap.size + 1) 0 (zp Z 31) := hE.cg (zp_mul Z (by decide +kernel))
  replace V : Hid (Room w7 bv ov) := hid (V.out.keep hU (Or.inl (by omega)))
  replace E_z11 := hid (E_z11.out.keep hU (Or.inl (by omega)))
  replace E_t1 := hid (E_t1.out.keep hU (Or.inl (by omega)))
  replace E_t2 := hid (E_t2.out.keep hU (Or.inl (by omega)))
  replace E_t := hid (E_t.out.keep hU (Or.inl (by omega)))
  replace E_z := hid (E_z.out.keep hU (Or.inl (by omega)))
  replace E_t0 : Hid (E5 w7 (w.heap.size + 1) 0 (zp Z 31)) := hid hE'
  replace UB : Hid (Below w.heap.size w w7) := hid (UB.out.trans (hU.below (by omega) (by have := SZ.out; omega)))
  replace SZ : Hid (w.heap.size + 5 ≤ w7.heap.size) := hid (Nat.le_trans SZ.out hU.size)
  clear hE hE' hU
  go_wp2_with fail
  refine (SquareN_any (w.heap.size + 4) 0 (w.heap.size + 1) 0 5 (zp Z 31) _ E_t0.out E_t.out.room (by decide)).mono ?_
  rintro e w8 ⟨rfl, hE, hU⟩
  have hE' : E5 w8 (w.heap.size + 4) 0 (zp Z 992) := hE.cg (zp_sq Z (by decide +kernel))
  replace V : Hid (Room w8 bv ov) := hid (V.out.keep hU (Or.inl (by omega)))
  replace E_z11 := hid (E_z11.out.keep hU (Or.inl (by omega)))
  replace E_t0 := hid (E_t0.out.keep hU (Or.inl (by omega)))
  replace E_t1 := hid (E_t1.out.keep hU (Or.inl (by omega)))
  replace E_t2 := hid (E_t2.out.keep hU (Or.inl (by omega)))
  replace E_z := hid (E_z.out.keep hU (Or.inl (by omega)))
  replace E_t : Hid (E5 w8 (w.heap.size + 4) 0 (zp Z 992)) := hid hE'
  replace UB : Hid (Below w.heap.size w w8) := hid (UB.out.trans (hU.below (by omega) (by have := SZ.out; omega)))
  replace SZ : Hid (w.heap.size + 5 ≤ w8.heap.size) := hid (Nat.le_trans SZ.out hU.size)
  clear hE hE' hU
  go_wp2_with fail
  refine (Multiply_any (w.heap.size + 3) 0 (w.heap.size + 4) 0 (w.heap.size + 1) 0 (zp Z 992) (zp Z 31) _ E_t.out E_t0.out E_t2.out.room).mono ?_
  rintro e w9 ⟨rfl, hE, hU⟩
  have hE' : E5 w9 (w.heap.size + 3) 0 (zp Z 1023) := hE.cg (zp_mul Z (by decide +kernel))
  replace V : Hid (Room w9 bv ov) := hid (V.out.keep hU (Or.inl (by omega)))
  replace E_z11 := hid (E_z11.out.keep hU (Or.inl (by omega)))
  replace E_t0 := hid (E_t0.out.keep hU (Or.inl (by omega)))
  replace E_t1 := hid (E_t1.out.keep hU (Or.inl (by omega)))
  replace E_t := hid (E_t.out.keep hU (Or.inl (by omega)))
  replace E_z := hid (E_z.out.keep hU (Or.inl (by omega)))
  replace E_t2 : Hid (E5 w9 (w.heap.size + 3) 0 (zp Z 1023)) := hid hE'
  replace UB : Hid (Below w.heap.size w w9) := hid (UB.out.trans (hU.below (by omega) (by have := SZ.out; omega)))
  replace SZ : Hid (w.heap.size + 5 ≤ w9.heap.size) := hid (Nat.le_trans SZ.out hU.size)
  clear hE hE' hU
  go_wp2_with fail
  refine (SquareN_any (w.heap.size + 4) 0 (w.heap.size + 3) 0 5 (zp Z 1023) _ E_t2.out E_t.out.room (by decide)).mono ?_
  rintro e w10 ⟨rfl, hE, hU⟩
  have hE' : E5 w10 (w.heap.size + 4) 0 (zp Z 32736) := hE.cg (zp_sq Z (by decide +kernel))
  replace V : Hid (Room w10 bv ov) := hid (V.out.keep hU (Or.inl (by omega)))
  replace E_z11 := hid (E_z11.out.keep hU (Or.inl (by omega)))
  replace E_t0 := hid (E_t0.out.keep hU (Or.inl (by omega)))
  replace E_t1 := hid (E_t1.out.keep hU (Or.inl (by omega)))
  replace E_t2 := hid (E_t2.out.keep hU (Or.inl (by omega)))
  replace E_z := hid (E_z.out.keep hU (Or.inl (by omega)))
  replace E_t : Hid (E5 w10 (w.heap.size + 4) 0 (zp Z 32736)) := hid hE'
  replace UB : Hid (Below w.heap.size w w10) := hid (UB.out.trans (hU.below (by omega) (by have := SZ.out; omega)))
  replace SZ : Hid (w.heap.size + 5 ≤ w10.heap.size) := hid (Nat.le_trans SZ.out hU.size)
  clear hE hE' hU
  go_wp2_with fail
  refine (Multiply_any (w.heap.size + 1) 0 (w.heap.size + 4) 0 (w.heap.size + 1) 0 (zp Z 32736) (zp Z 31) _ E_t.out E_t0.out E_t0.out.room).mono ?_
  rintro e w11 ⟨rfl, hE, hU⟩
  have hE' : E5 w11 (w.heap.size + 1) 0 (zp Z 32767) := hE.cg (zp_mul Z (by decide +kernel))
  replace V : Hid (Room w11 bv ov) := hid (V.out.keep hU (Or.inl (by omega)))
  replace E_z11 := hid (E_z11.out.keep hU (Or.inl (by omega)))
  replace E_t1 := hid (E_t1.out.keep hU (Or.inl (by omega)))
  replace E_t2 := hid (E_t2.out.keep hU (Or.inl (by omega)))
  replace E_t := hid (E_t.out.keep hU (Or.inl (by omega)))
  replace E_z := hid (E_z.out.keep hU (Or.inl (by omega)))
  replace E_t0 : Hid (E5 w11 (w.heap.size + 1) 0 (zp Z 32767)) := hid hE'
  replace UB : Hid (Below w.heap.size w w11) := hid (UB.out.trans (hU.below (by omega) (by have := SZ.out; omega)))
  replace SZ : Hid (w.heap.size + 5 ≤ w11.heap.size) := hid (Nat.le_trans SZ.out hU.size)
  clear hE hE' hU
  go_wp2_with fail
  refine (SquareN_any (w.heap.size + 4) 0 (w.heap.size + 1) 0 15 (zp Z 32767) _ E_t0.out E_t.out.room (by decide)).mono ?_
  rintro e w12 ⟨rfl, hE, hU⟩
  have hE' : E5 w12 (w.heap.size + 4) 0 (zp Z 1073709056) := hE.cg (zp_sq Z (by decide +kernel))
  replace V : Hid (Room w12 bv ov) := hid (V.out.keep hU (Or.inl (by omega)))
  replace E_z11 := hid (E_z11.out.keep hU (Or.inl (by omega)))
  replace E_t0 := hid (E_t0.out.keep hU (Or.inl (by omega)))
  replace E_t1 := hid (E_t1.out.keep hU (Or.inl (by omega)))
  replace E_t2 := hid (E_t2.out.keep hU (Or.inl (by omega)))
  replace E_z := hid (E_z.out.keep hU (Or.inl (by omega)))
  replace E_t : Hid (E5 w12 (w.heap.size + 4) 0 (zp Z 1073709056)) := hid hE'
  replace UB : Hid (Below w.heap.size w w12) := hid (UB.out.trans (hU.below (by omega) (by have := SZ.out; omega)))
  replace SZ : Hid (w.heap.size + 5 ≤ w12.heap.size) := hid (Nat.le_trans SZ.out hU.size)
  clear hE hE' hU
  go_wp2_with fail
  refine (Multiply_any (w.heap.size + 2) 0 (w.heap.size + 4) 0 (w.heap.size + 1) 0 (zp Z 1073709056) (zp Z 32767) _ E_t.out E_t0.out E_t1.out.room).mono ?_
  rintro e w13 ⟨rfl, hE, hU⟩
  have hE' : E5 w13 (w.heap.size + 2) 0 (zp Z 1073741823) := hE.cg (zp_mul Z (by decide +kernel))
  replace V : Hid (Room w13 bv ov) := hid (V.out.keep hU (Or.inl (by omega)))
  replace E_z11 := hid (E_z11.out.keep hU (Or.inl (by omega)))
  replace E_t0 := hid (E_t0.out.keep hU (Or.inl (by omega)))
  replace E_t2 := hid (E_t2.out.keep hU (Or.inl (by omega)))
  replace E_t := hid (E_t.out.keep hU (Or.inl (by omega)))
  replace E_z := hid (E_z.out.keep hU (Or.inl (by omega)))
  replace E_t1 : Hid (E5 w13 (w.heap.size + 2) 0 (zp Z 1073741823)) := hid hE'
  replace UB : Hid (Below w.heap.size w w13) := hid (UB.out.trans (hU.below (by omega) (by have := SZ.out; omega)))
  replace SZ : Hid (w.heap.size + 5 ≤ w13.heap.size) := hid (Nat.le_trans SZ.out hU.size)
  clear hE hE' hU
  go_wp2_with fail
  refine (SquareN_any (w.heap.size + 4) 0 (w.heap.size + 2) 0 30 (zp Z 1073741823) _ E_t1.out E_t.out.room (by decide)).mono ?_
  rintro e w14 ⟨rfl, hE, hU⟩
  have hE' : E5 w14 (w.heap.size + 4) 0 (zp Z 1152921503533105152) := hE.cg (zp_sq Z (by decide +kernel))
  replace V : Hid (Room w14 bv ov) := hid (V.out.keep hU (Or.inl (by omega)))
  replace E_z11 := hid (E_z11.out.keep hU (Or.inl (by omega)))
  replace E_t0 := hid (E_t0.out.keep hU (Or.inl (by omega)))
  replace E_t1 := hid (E_t1.out.keep hU (Or.inl (by omega)))
  replace E_t2 := hid (E_t2.out.keep hU (Or.inl (by omega)))
  replace E_z := hid (E_z.out.keep hU (Or.inl (by omega)))
  replace E_t : Hid (E5 w14 (w.heap.size + 4) 0 (zp Z 1152921503533105152)) := hid hE'
  replace UB : Hid (Below w.heap.size w w14) := hid (UB.out.trans (hU.below (by omega) (by have := SZ.out; omega)))
  replace SZ : Hid (w.heap.size + 5 ≤ w14.heap.size) := hid (Nat.le_trans SZ.out hU.size)
  clear hE hE' hU
  go_wp2_with fail
  refine (Multiply_any (w.heap.size + 1) 0 (w.heap.size + 4) 0 (w.heap.size + 2) 0 (zp Z 1152921503533105152) (zp Z 1073741823) _ E_t.out E_t1.out E_t0.out.room).mono ?_
  rintro e w15 ⟨rfl, hE, hU⟩
  have hE' : E5 w15 (w.heap.size + 1) 0 (zp Z 1152921504606846975) := hE.cg (zp_mul Z (by decide +kernel))
  replace V : Hid (Room w15 bv ov) := hid (V.out.keep hU (Or.inl (by omega)))
  replace E_z11 := hid (E_z11.out.keep hU (Or.inl (by omega)))
  replace E_t1 := hid (E_t1.out.keep hU (Or.inl (by omega)))
  replace E_t2 := hid (E_t2.out.keep hU (Or.inl (by omega)))
  replace E_t := hid (E_t.out.keep hU (Or.inl (by omega)))
  replace E_z := hid (E_z.out.keep hU (Or.inl (by omega)))
  replace E_t0 : Hid (E5 w15 (w.heap.size + 1) 0 (zp Z 1152921504606846975)) := hid hE'
  replace UB : Hid (Below w.heap.size w w15) := hid (UB.out.trans (hU.below (by omega) (by have := SZ.out; omega)))
  replace SZ : Hid (w.heap.size + 5 ≤ w15.heap.size) := hid (Nat.le_trans SZ.out hU.size)
  clear hE hE' hU
  go_wp2_with fail
  refine (SquareN_any (w.heap.size + 4) 0 (w.heap.size + 1) 0 60 (zp Z 1152921504606846975) _ E_t0.out E_t.out.room (by decide)).mono ?_
  rintro e w16 ⟨rfl, hE, hU⟩
  have hE' : E5 w16 (w.heap.size + 4) 0 (zp Z 1329227995784915871750885555673497600) := hE.cg (zp_sq Z (by decide +kernel))
  replace V : Hid (Room w16 bv ov) := hid (V.out.keep hU (Or.inl (by omega)))
  replace E_z11 := hid (E_z11.out.keep hU (Or.inl (by omega)))
  replace E_t0 := hid (E_t0.out.keep hU (Or.inl (by omega)))
  replace E_t1 := hid (E_t1.out.keep hU (Or.inl (by omega)))
  replace E_t2 := hid (E_t2.out.keep hU (Or.inl (by omega)))
  replace E_z := hid (E_z.out.keep hU (Or.inl (by omega)))
  replace E_t : Hid (E5 w16 (w.heap.size + 4) 0 (zp Z 1329227995784915871750885555673497600)) := hid hE'
  replace UB : Hid (Below w.heap.size w w16) := hid (UB.out.trans (hU.below (by omega) (by have := SZ.out; omega)))
  replace SZ : Hid (w.heap.size + 5 ≤ w16.heap.size) := hid (Nat.le_trans SZ.out hU.size)
  clear hE hE' hU
  go_wp2_with fail
  refine (Multiply_any (w.heap.size + 2) 0 (w.heap.size + 4) 0 (w.heap.size + 1) 0 (zp Z 1329227995784915871750885555673497600) (zp Z 1152921504606846975) _ E_t.out E_t0.out E_t1.out.room).mono ?_
  rintro e w17 ⟨rfl, hE, hU⟩
  have hE' : E5 w17 (w.heap.size + 2) 0 (zp Z 1329227995784915872903807060280344575) := hE.cg (zp_mul Z (by decide +kernel))
  replace V : Hid (Room w17 bv ov) := hid (V.out.keep hU (Or.inl (by omega)))
  replace E_z11 := hid (E_z11.out.keep hU (Or.inl (by omega)))
  replace E_t0 := hid (E_t0.out.keep hU (Or.inl (by omega)))
  replace E_t2 := hid (E_t2.out.keep hU (Or.inl (by omega)))
  replace E_t := hid (E_t.out.keep hU (Or.inl (by omega)))
  replace E_z := hid (E_z.out.keep hU (Or.inl (by omega)))
  replace E_t1 : Hid (E5 w17 (w.heap.size + 2) 0 (zp Z 1329227995784915872903807060280344575)) := hid hE'
  replace UB : Hid (Below w.heap.size w w17) := hid (UB.out.trans (hU.below (by omega) (by have := SZ.out; omega)))
  replace SZ : Hid (w.heap.size + 5 ≤ w17.heap.size) := hid (Nat.le_trans SZ.out hU.size)
  clear hE hE' hU
  go_wp2_with fail
  refine (SquareN_any (w.heap.size + 4) 0 (w.heap.size + 2) 0 120 (zp Z 1329227995784915872903807060280344575) _ E_t1.out E_t.out.room (by decide)).mono ?_
  rintro e w18 ⟨rfl, hE, hU⟩
  have hE' : E5 w18 (w.heap.size + 4) 0 (zp Z 1766847064778384329583297500742918514498255901090703085217799141012275200) := hE.cg (zp_sq Z (by decide +kernel))
  replace V : Hid (Room w18 bv ov) := hid (V.out.keep hU (Or.inl (by omega)))
  replace E_z11 := hid (E_z11.out.keep hU (Or.inl (by omega)))
  replace E_t0 := hid (E_t0.out.keep hU (Or.inl (by omega)))
  replace E_t1 := hid (E_t1.out.keep hU (Or.inl (by omega)))
  replace E_t2 := hid (E_t2.out.keep hU (Or.inl (by omega)))
  replace E_z := hid (E_z.out.keep hU (Or.inl (by omega)))
  replace E_t : Hid (E5 w18 (w.heap.size + 4) 0 (zp Z 1766847064778384329583297500742918514498255901090703085217799141012275200)) := hid hE'
  replace UB : Hid (Below w.heap.size w w18) := hid (UB.out.trans (hU.below (by omega) (by have := SZ.out; omega)))
  replace SZ : Hid (w.heap.size + 5 ≤ w18.heap.size) := hid (Nat.le_trans SZ.out hU.size)
  clear hE hE' hU
  go_wp2_with fail
  refine (Multiply_any (w.heap.size + 4) 0 (w.heap.size + 4) 0 (w.heap.size + 2) 0 (zp Z 1766847064778384329583297500742918514498255901090703085217799141012275200) (zp Z 1329227995784915872903807060280344575) _ E_t.out E_t1.out E_t.out.room).mono ?_
  rintro e w19 ⟨rfl, hE, hU⟩
  have hE' : E5 w19 (w.heap.size + 4) 0 (zp Z 1766847064778384329583297500742918515827483896875618958121606201292619775) := hE.cg (zp_mul Z (by decide +kernel))
  replace V : Hid (Room w19 bv ov) := hid (V.out.keep hU (Or.inl (by omega)))
  replace E_z11 := hid (E_z11.out.keep hU (Or.inl (by omega)))
  replace E_t0 := hid (E_t0.out.keep hU (Or.inl (by omega)))
  replace E_t1 := hid (E_t1.out.keep hU (Or.inl (by omega)))
  replace E_t2 := hid (E_t2.out.keep hU (Or.inl (by omega)))
  replace E_z := hid (E_z.out.keep hU (Or.inl (by omega)))
  replace E_t : Hid (E5 w19 (w.heap.size + 4) 0 (zp Z 1766847064778384329583297500742918515827483896875618958121606201292619775)) := hid hE'
  replace UB : Hid (Below w.heap.size w w19) := hid (UB.out.trans (hU.below (by omega) (by have := SZ.out; omega)))
  replace SZ : Hid (w.heap.size + 5 ≤ w19.heap.size) := hid (Nat.le_trans SZ.out hU.size)
  clear hE hE' hU
  go_wp2_with fail
  refine (SquareN_any (w.heap.size + 4) 0 (w.heap.size + 4) 0 10 (zp Z 1766847064778384329583297500742918515827483896875618958121606201292619775) _ E_t.out E_t.out.room (by decide)).mono ?_
  rintro e w20 ⟨rfl, hE, hU⟩
  have hE' : E5 w20 (w.heap.size + 4) 0 (zp Z 1809251394333065553493296640760748560207343510400633813116524750123642649600) := hE.cg (zp_sq Z (by decide +kernel))
  replace V : Hid (Room w20 bv ov) := hid (V.out.keep hU (Or.inl (by omega)))
  replace E_z11 := hid (E_z11.out.keep hU (Or.inl (by omega)))
  replace E_t0 := hid (E_t0.out.keep hU (Or.inl (by omega)))
  replace E_t1 := hid (E_t1.out.keep hU (Or.inl (by omega)))
  replace E_t2 := hid (E_t2.out.keep hU (Or.inl (by omega)))
  replace E_z := hid (E_z.out.keep hU (Or.inl (by omega)))
  replace E_t : Hid (E5 w20 (w.heap.size + 4) 0 (zp Z 1809251394333065553493296640760748560207343510400633813116524750123642649600)) := hid hE'
  replace UB : Hid (Below w.heap.size w w20) := hid (UB.out.trans (hU.below (by omega) (by have := SZ.out; omega)))
  replace SZ : Hid (w.heap.size + 5 ≤ w20.heap.size) := hid (Nat.le_trans SZ.out hU.size)
  clear hE hE' hU
  go_wp2_with fail
  refine (Multiply_any (w.heap.size + 4) 0 (w.heap.size + 4) 0 (w.heap.size + 3) 0 (zp Z 1809251394333065553493296640760748560207343510400633813116524750123642649600) (zp Z 1023) _ E_t.out E_t2.out E_t.out.room).mono ?_
  rintro e w21 ⟨rfl, hE, hU⟩
  have hE' : E5 w21 (w.heap.size + 4) 0 (zp Z 1809251394333065553493296640760748560207343510400633813116524750123642650623) := hE.cg (zp_mul Z (by decide +kernel))
  replace V : Hid (Room w21 bv ov) := hid (V.out.keep hU (Or.inl (by omega)))
  replace E_z11 := hid (E_z11.out.keep hU (Or.inl (by omega)))
  replace E_t0 := hid (E_t0.out.keep hU (Or.inl (by omega)))
  replace E_t1 := hid (E_t1.out.keep hU (Or.inl (by omega)))
  replace E_t2 := hid (E_t2.out.keep hU (Or.inl (by omega)))
  replace E_z := hid (E_z.out.keep hU (Or.inl (by omega)))
  replace E_t : Hid (E5 w21 (w.heap.size + 4) 0 (zp Z 1809251394333065553493296640760748560207343510400633813116524750123642650623)) := hid hE'
  replace UB : Hid (Below w.heap.size w w21) := hid (UB.out.trans (hU.below (by omega) (by have := SZ.out; omega)))
  replace SZ : Hid (w.heap.size + 5 ≤ w21.heap.size) := hid (Nat.le_trans SZ.out hU.size)
  clear hE hE' hU
  go_wp2_with fail
  refine (SquareN_any (w.heap.size + 4) 0 (w.heap.size + 4) 0 5 (zp Z 1809251394333065553493296640760748560207343510400633813116524750123642650623) _ E_t.out E_t.out.room (by decide)).mono ?_
  rintro e w22 ⟨rfl, hE, hU⟩
  have hE' : E5 w22 (w.heap.size + 4) 0 (zp Z 57896044618658097711785492504343953926634992332820282019728792003956564819936) := hE.cg (zp_sq Z (by decide +kernel))
  replace V : Hid (Room w22 bv ov) := hid (V.out.keep hU (Or.inl (by omega)))
  replace E_z11 := hid (E_z11.out.keep hU (Or.inl (by omega)))
  replace E_t0 := hid (E_t0.out.keep hU (Or.inl (by omega)))
  replace E_t1 := hid (E_t1.out.keep hU (Or.inl (by omega)))
  replace E_t2 := hid (E_t2.out.keep hU (Or.inl (by omega)))
  replace E_z := hid (E_z.out.keep hU (Or.inl (by omega)))
  replace E_t : Hid (E5 w22 (w.heap.size + 4) 0 (zp Z 57896044618658097711785492504343953926634992332820282019728792003956564819936)) := hid hE'
  replace UB : Hid (Below w.heap.size w w22) := hid (UB.out.trans (hU.below (by omega) (by have := SZ.out; omega)))
  replace SZ : Hid (w.heap.size + 5 ≤ w22.heap.size) := hid (Nat.le_trans SZ.out hU.size)
  clear hE hE' hU
  go_wp2_with fail
  refine (Multiply_any bv ov (w.heap.size + 4) 0 w.heap.size 0 (zp Z 57896044618658097711785492504343953926634992332820282019728792003956564819936) (zp Z 11) _ E_t.out E_z11.out V.out).mono ?_
  rintro e w23 ⟨rfl, hE, hU⟩
  have hE' : E5 w23 bv ov (zp Z 57896044618658097711785492504343953926634992332820282019728792003956564819947) := hE.cg (zp_mul Z (by decide +kernel))
  have Q : Hid (E5 w23 bv ov (zp Z 57896044618658097711785492504343953926634992332820282019728792003956564819947) ∧ Upd w w23 bv ov 5) := hid ⟨hE', (Upd.of_below bv ov 5 UB.out ltv).trans hU⟩
  clear hE hE' hU
  go_wp2_with fail
  go_ret
  exact ⟨rfl, Q.out⟩
end Go.Proofs.YtflmkgecgijncaaDoor
