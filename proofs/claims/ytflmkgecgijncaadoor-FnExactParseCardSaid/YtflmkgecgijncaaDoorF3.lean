/-
  feMulGeneric: what it writes is the product modulo 2^255 - 19. Walks printed by gen_mul.py.
-/
import Derived.Test.YtflmkgecgijncaaDoorF2
namespace Go.Proofs.YtflmkgecgijncaaDoor
open Go.RowKit Go.Shelf

theorem mul19_q (x : Int) (w : World) (hx : 0 ≤ x) (hx' : x < 576460752303423488) :
    Calls Tryd.prog 89 #[.int .u64 x] w fun e w' => e = .returned (.int .u64 (19 * x)) ∧ w' = w :=
  (mul19_any x w hx hx').mono fun _ _ h => ⟨h.1, h.2.symm⟩

theorem St.ne2 {w0 W : World} {B : Nat} {x : Int × Int} {Bs : List (Nat × Int × Int)} (h : St w0 W ((B, x) :: Bs)) {B' : Nat} {x' : Int × Int} (hm : (B', x') ∈ Bs) : B' ≠ B :=
  List.rel_of_pairwise_cons h.ne hm

theorem wrote_mk {w X : World} {b o : Nat} {l0 l1 l2 l3 l4 c0 c1 c2 c3 c4 R0 R1 R2 R3 R4 : Int} (hb : Below w.heap.size w X)
    (e0 : Hid (c0 * 2251799813685248 + l0 % 2251799813685248 = R0)) (e1 : Hid (c1 * 2251799813685248 + l1 % 2251799813685248 = R1)) (e2 : Hid (c2 * 2251799813685248 + l2 % 2251799813685248 = R2))
    (e3 : Hid (c3 * 2251799813685248 + l3 % 2251799813685248 = R3)) (e4 : Hid (c4 * 2251799813685248 + l4 % 2251799813685248 = R4))
    (n0 : 0 ≤ c0) (n1 : 0 ≤ c1) (n2 : 0 ≤ c2) (n3 : 0 ≤ c3) (n4 : 0 ≤ c4)
    (b0 : R0 < 2596148429267413814265248164610048) (b1 : R1 < 2596148429267413814265248164610048) (b2 : R2 < 2596148429267413814265248164610048) (b3 : R3 < 2596148429267413814265248164610048) (b4 : R4 < 162259276829213363391578010288128) :
    Wrote w b o (val R0 R1 R2 R3 R4) (.tuple #[]) (.returned (.tuple #[])) (put5 X b o
      ((l0 + 19 * c4) % 2251799813685248 + 19 * ((l4 % 2251799813685248 + c3) / 2251799813685248))
      ((l1 + c0) % 2251799813685248 + (l0 % 2251799813685248 + 19 * c4) / 2251799813685248)
      ((l2 + c1) % 2251799813685248 + (l1 % 2251799813685248 + c0) / 2251799813685248)
      ((l3 + c2) % 2251799813685248 + (l2 % 2251799813685248 + c1) / 2251799813685248)
      ((l4 + c3) % 2251799813685248 + (l3 % 2251799813685248 + c2) / 2251799813685248)) := by
  obtain ⟨hs, k, hk⟩ := carried_val (l0 := l0) (l1 := l1) (l2 := l2) (l3 := l3) (l4 := l4) ⟨rfl, rfl, rfl, rfl, rfl⟩ e0.out e1.out e2.out e3.out e4.out n0 n1 n2 n3 n4 b0 b1 b2 b3 b4
  exact ⟨_, _, _, _, _, k, X, rfl, hb, rfl, hs, hk⟩

theorem limb_mul2 {x y : Int} (hx : 0 ≤ x) (hx' : x < 4503599627370496) (hy : 0 ≤ y) (hy' : y < 4503599627370496) : Hid (0 ≤ x * 2 * y ∧ x * 2 * y ≤ 40564819207303340847894502572032) := by
  have := (limb_mul hx hx' hy hy').out
  have e : x * 2 * y = 2 * (x * y) := by grind
  rw [e]
  exact hid (by omega)


set_option maxRecDepth 100000 in
set_option maxHeartbeats 4000000 in
theorem feMulGeneric_any (bv ov ba oa bb ob : Nat) (a0 a1 a2 a3 a4 b0 b1 b2 b3 b4 : Int) (w : World) (hv : Room w bv ov) (ha : Limbs w ba oa a0 a1 a2 a3 a4) (hb : Limbs w bb ob b0 b1 b2 b3 b4) 
    (sa : Small a0 a1 a2 a3 a4) (sb : Small b0 b1 b2 b3 b4) :
    Calls Tryd.prog 90 #[.pointer (some ⟨bv, ov, none⟩), .pointer (some ⟨ba, oa, none⟩), .pointer (some ⟨bb, ob, none⟩)] w (Wrote w bv ov (val (a0 * b0 + 19 * (a1 * b4) + 19 * (a2 * b3) + 19 * (a3 * b2) + 19 * (a4 * b1)) (a0 * b1 + a1 * b0 + 19 * (a2 * b4) + 19 * (a3 * b3) + 19 * (a4 * b2)) (a0 * b2 + a1 * b1 + a2 * b0 + 19 * (a3 * b4) + 19 * (a4 * b3)) (a0 * b3 + a1 * b2 + a2 * b1 + a3 * b0 + 19 * (a4 * b4)) (a0 * b4 + a1 * b3 + a2 * b2 + a3 * b1 + a4 * b0)) (.tuple #[])) := by
  obtain ⟨ca0, ca1, ca2, ca3, ca4⟩ := ha
  obtain ⟨cb0, cb1, cb2, cb3, cb4⟩ := hb
  obtain ⟨⟨la0, ua0⟩, ⟨la1, ua1⟩, ⟨la2, ua2⟩, ⟨la3, ua3⟩, ⟨la4, ua4⟩⟩ := sa
  obtain ⟨⟨lb0, ub0⟩, ⟨lb1, ub1⟩, ⟨lb2, ub2⟩, ⟨lb3, ub3⟩, ⟨lb4, ub4⟩⟩ := sb
  have P_a0_b0 := limb_mul la0 ua0 lb0 ub0
  have P_a1_b4 := limb_mul la1 ua1 lb4 ub4
  have P_a2_b3 := limb_mul la2 ua2 lb3 ub3
  have P_a3_b2 := limb_mul la3 ua3 lb2 ub2
  have P_a4_b1 := limb_mul la4 ua4 lb1 ub1
  have P_a0_b1 := limb_mul la0 ua0 lb1 ub1
  have P_a1_b0 := limb_mul la1 ua1 lb0 ub0
  have P_a2_b4 := limb_mul la2 ua2 lb4 ub4
  have P_a3_b3 := limb_mul la3 ua3 lb3 ub3
  have P_a4_b2 := limb_mul la4 ua4 lb2 ub2
  have P_a0_b2 := limb_mul la0 ua0 lb2 ub2
  have P_a1_b1 := limb_mul la1 ua1 lb1 ub1
  have P_a2_b0 := limb_mul la2 ua2 lb0 ub0
  have P_a3_b4 := limb_mul la3 ua3 lb4 ub4
  have P_a4_b3 := limb_mul la4 ua4 lb3 ub3
  have P_a0_b3 := limb_mul la0 ua0 lb3 ub3
  have P_a1_b2 := limb_mul la1 ua1 lb2 ub2
  have P_a2_b1 := limb_mul la2 ua2 lb1 ub1
  have P_a3_b0 := limb_mul la3 ua3 lb0 ub0
  have P_a4_b4 := limb_mul la4 ua4 lb4 ub4
  have P_a0_b4 := limb_mul la0 ua0 lb4 ub4
  have P_a1_b3 := limb_mul la1 ua1 lb3 ub3
  have P_a2_b2 := limb_mul la2 ua2 lb2 ub2
  have P_a3_b1 := limb_mul la3 ua3 lb1 ub1
  have P_a4_b0 := limb_mul la4 ua4 lb0 ub0
  have HV : Hid (Room w bv ov) := hid hv
  clear hv
  have S0 := St.refl w
  go_enter Tryd.func90, Tryd.ntmps90
  go_wp2_with fail
  clear ca0 ca1 ca2 ca3 ca4 cb0 cb1 cb2 cb3 cb4
  refine (mul_any a0 b0 _ (by omega) (by omega) (by omega) (by omega)).mono ?_
  rintro e w1 ⟨h1, l1, rfl, ⟨p1a, p1b⟩, ⟨p1c, p1d⟩, H1, hb1⟩
  have S1 := S0.call hb1
  go_wp2_with fail
  have T1 := S1.new l1 h1
  generalize w1.alloc (.cells #[.int .u64 l1, .int .u64 h1] 119) = W1 at T1 ⊢
  generalize w1.heap.size = B0 at T1  ⊢
  clear hb1 S1 S0
  refine (addMul19_any l1 h1 _ a1 b4 _ (by omega) (by omega) (by omega) (by omega) (by omega) (by omega) (by omega) (by omega) H1 (by have q0 := P_a0_b0.out; have q1 := P_a1_b4.out; exact hid (by omega))).mono ?_
  rintro e w2 ⟨h2, l2, rfl, ⟨p2a, p2b⟩, ⟨p2c, p2d⟩, H2, hb2⟩
  have S2 := T1.call hb2
  obtain ⟨c0, c1, f0, f1⟩ := S2.cell (List.mem_cons_self ..)
  go_wp2_with fail
  have T2 := S2.store l2 h2
  generalize (w2.setCell ⟨B0, 0, none⟩ (.int .u64 l2)).setCell ⟨B0, 1, none⟩ (.int .u64 h2) = W2 at T2 ⊢
  clear hb2 S2 T1 c0 c1 f0 f1 H1 p1a p1b p1c p1d
  refine (addMul19_any l2 h2 _ a2 b3 _ (by omega) (by omega) (by omega) (by omega) (by omega) (by omega) (by omega) (by omega) H2 (by have q0 := P_a0_b0.out; have q1 := P_a1_b4.out; have q2 := P_a2_b3.out; exact hid (by omega))).mono ?_
  rintro e w3 ⟨h3, l3, rfl, ⟨p3a, p3b⟩, ⟨p3c, p3d⟩, H3, hb3⟩
  have S3 := T2.call hb3
  obtain ⟨c0, c1, f0, f1⟩ := S3.cell (List.mem_cons_self ..)
  go_wp2_with fail
  have T3 := S3.store l3 h3
  generalize (w3.setCell ⟨B0, 0, none⟩ (.int .u64 l3)).setCell ⟨B0, 1, none⟩ (.int .u64 h3) = W3 at T3 ⊢
  clear hb3 S3 T2 c0 c1 f0 f1 H2 p2a p2b p2c p2d
  refine (addMul19_any l3 h3 _ a3 b2 _ (by omega) (by omega) (by omega) (by omega) (by omega) (by omega) (by omega) (by omega) H3 (by have q0 := P_a0_b0.out; have q1 := P_a1_b4.out; have q2 := P_a2_b3.out; have q3 := P_a3_b2.out; exact hid (by omega))).mono ?_
  rintro e w4 ⟨h4, l4, rfl, ⟨p4a, p4b⟩, ⟨p4c, p4d⟩, H4, hb4⟩
  have S4 := T3.call hb4
  obtain ⟨c0, c1, f0, f1⟩ := S4.cell (List.mem_cons_self ..)
  go_wp2_with fail
  have T4 := S4.store l4 h4
  generalize (w4.setCell ⟨B0, 0, none⟩ (.int .u64 l4)).setCell ⟨B0, 1, none⟩ (.int .u64 h4) = W4 at T4 ⊢
  clear hb4 S4 T3 c0 c1 f0 f1 H3 p3a p3b p3c p3d
  refine (addMul19_any l4 h4 _ a4 b1 _ (by omega) (by omega) (by omega) (by omega) (by omega) (by omega) (by omega) (by omega) H4 (by have q0 := P_a0_b0.out; have q1 := P_a1_b4.out; have q2 := P_a2_b3.out; have q3 := P_a3_b2.out; have q4 := P_a4_b1.out; exact hid (by omega))).mono ?_
  rintro e w5 ⟨h5, l5, rfl, ⟨p5a, p5b⟩, ⟨p5c, p5d⟩, H5, hb5⟩
  have S5 := T4.call hb5
  obtain ⟨c0, c1, f0, f1⟩ := S5.cell (List.mem_cons_self ..)
  go_wp2_with fail
  have T5 := S5.store l5 h5
  generalize (w5.setCell ⟨B0, 0, none⟩ (.int .u64 l5)).setCell ⟨B0, 1, none⟩ (.int .u64 h5) = W5 at T5 ⊢
  clear hb5 S5 T4 c0 c1 f0 f1 H4 p4a p4b p4c p4d
  refine (mul_any a0 b1 _ (by omega) (by omega) (by omega) (by omega)).mono ?_
  rintro e w6 ⟨h6, l6, rfl, ⟨p6a, p6b⟩, ⟨p6c, p6d⟩, H6, hb6⟩
  have S6 := T5.call hb6
  go_wp2_with fail
  have T6 := S6.new l6 h6
  have N01 := T6.ne2 (List.mem_cons_self ..)
  generalize w6.alloc (.cells #[.int .u64 l6, .int .u64 h6] 119) = W6 at T6 ⊢
  generalize w6.heap.size = B1 at T6 N01 ⊢
  clear hb6 S6 T5
  refine (addMul_any l6 h6 _ a1 b0 _ (by omega) (by omega) (by omega) (by omega) (by omega) (by omega) (by omega) (by omega) H6 (by have q0 := P_a0_b1.out; have q1 := P_a1_b0.out; exact hid (by omega))).mono ?_
  rintro e w7 ⟨h7, l7, rfl, ⟨p7a, p7b⟩, ⟨p7c, p7d⟩, H7, hb7⟩
  have S7 := T6.call hb7
  obtain ⟨c0, c1, f0, f1⟩ := S7.cell (List.mem_cons_self ..)
  go_wp2_with fail
  have T7 := S7.store l7 h7
  generalize (w7.setCell ⟨B1, 0, none⟩ (.int .u64 l7)).setCell ⟨B1, 1, none⟩ (.int .u64 h7) = W7 at T7 ⊢
  clear hb7 S7 T6 c0 c1 f0 f1 H6 p6a p6b p6c p6d
  refine (addMul19_any l7 h7 _ a2 b4 _ (by omega) (by omega) (by omega) (by omega) (by omega) (by omega) (by omega) (by omega) H7 (by have q0 := P_a0_b1.out; have q1 := P_a1_b0.out; have q2 := P_a2_b4.out; exact hid (by omega))).mono ?_
  rintro e w8 ⟨h8, l8, rfl, ⟨p8a, p8b⟩, ⟨p8c, p8d⟩, H8, hb8⟩
  have S8 := T7.call hb8
  obtain ⟨c0, c1, f0, f1⟩ := S8.cell (List.mem_cons_self ..)
  go_wp2_with fail
  have T8 := S8.store l8 h8
  generalize (w8.setCell ⟨B1, 0, none⟩ (.int .u64 l8)).setCell ⟨B1, 1, none⟩ (.int .u64 h8) = W8 at T8 ⊢
  clear hb8 S8 T7 c0 c1 f0 f1 H7 p7a p7b p7c p7d
  refine (addMul19_any l8 h8 _ a3 b3 _ (by omega) (by omega) (by omega) (by omega) (by omega) (by omega) (by omega) (by omega) H8 (by have q0 := P_a0_b1.out; have q1 := P_a1_b0.out; have q2 := P_a2_b4.out; have q3 := P_a3_b3.out; exact hid (by omega))).mono ?_
  rintro e w9 ⟨h9, l9, rfl, ⟨p9a, p9b⟩, ⟨p9c, p9d⟩, H9, hb9⟩
  have S9 := T8.call hb9
  obtain ⟨c0, c1, f0, f1⟩ := S9.cell (List.mem_cons_self ..)
  go_wp2_with fail
  have T9 := S9.store l9 h9
  generalize (w9.setCell ⟨B1, 0, none⟩ (.int .u64 l9)).setCell ⟨B1, 1, none⟩ (.int .u64 h9) = W9 at T9 ⊢
  clear hb9 S9 T8 c0 c1 f0 f1 H8 p8a p8b p8c p8d
  refine (addMul19_any l9 h9 _ a4 b2 _ (by omega) (by omega) (by omega) (by omega) (by omega) (by omega) (by omega) (by omega) H9 (by have q0 := P_a0_b1.out; have q1 := P_a1_b0.out; have q2 := P_a2_b4.out; have q3 := P_a3_b3.out; have q4 := P_a4_b2.out; exact hid (by omega))).mono ?_
  rintro e w10 ⟨h10, l10, rfl, ⟨p10a, p10b⟩, ⟨p10c, p10d⟩, H10, hb10⟩
  have S10 := T9.call hb10
  obtain ⟨c0, c1, f0, f1⟩ := S10.cell (List.mem_cons_self ..)
  go_wp2_with fail
  have T10 := S10.store l10 h10
  generalize (w10.setCell ⟨B1, 0, none⟩ (.int .u64 l10)).setCell ⟨B1, 1, none⟩ (.int .u64 h10) = W10 at T10 ⊢
  clear hb10 S10 T9 c0 c1 f0 f1 H9 p9a p9b p9c p9d
  refine (mul_any a0 b2 _ (by omega) (by omega) (by omega) (by omega)).mono ?_
  rintro e w11 ⟨h11, l11, rfl, ⟨p11a, p11b⟩, ⟨p11c, p11d⟩, H11, hb11⟩
  have S11 := T10.call hb11
  go_wp2_with fail
  have T11 := S11.new l11 h11
  have N12 := T11.ne2 (List.mem_cons_self ..)
  generalize w11.alloc (.cells #[.int .u64 l11, .int .u64 h11] 119) = W11 at T11 ⊢
  generalize w11.heap.size = B2 at T11 N12 ⊢
  clear hb11 S11 T10
  refine (addMul_any l11 h11 _ a1 b1 _ (by omega) (by omega) (by omega) (by omega) (by omega) (by omega) (by omega) (by omega) H11 (by have q0 := P_a0_b2.out; have q1 := P_a1_b1.out; exact hid (by omega))).mono ?_
  rintro e w12 ⟨h12, l12, rfl, ⟨p12a, p12b⟩, ⟨p12c, p12d⟩, H12, hb12⟩
  have S12 := T11.call hb12
  obtain ⟨c0, c1, f0, f1⟩ := S12.cell (List.mem_cons_self ..)
  go_wp2_with fail
  have T12 := S12.store l12 h12
  generalize (w12.setCell ⟨B2, 0, none⟩ (.int .u64 l12)).setCell ⟨B2, 1, none⟩ (.int .u64 h12) = W12 at T12 ⊢
  clear hb12 S12 T11 c0 c1 f0 f1 H11 p11a p11b p11c p11d
  refine (addMul_any l12 h12 _ a2 b0 _ (by omega) (by omega) (by omega) (by omega) (by omega) (by omega) (by omega) (by omega) H12 (by have q0 := P_a0_b2.out; have q1 := P_a1_b1.out; have q2 := P_a2_b0.out; exact hid (by omega))).mono ?_
  rintro e w13 ⟨h13, l13, rfl, ⟨p13a, p13b⟩, ⟨p13c, p13d⟩, H13, hb13⟩
  have S13 := T12.call hb13
  obtain ⟨c0, c1, f0, f1⟩ := S13.cell (List.mem_cons_self ..)
  go_wp2_with fail
  have T13 := S13.store l13 h13
  generalize (w13.setCell ⟨B2, 0, none⟩ (.int .u64 l13)).setCell ⟨B2, 1, none⟩ (.int .u64 h13) = W13 at T13 ⊢
  clear hb13 S13 T12 c0 c1 f0 f1 H12 p12a p12b p12c p12d
  refine (addMul19_any l13 h13 _ a3 b4 _ (by omega) (by omega) (by omega) (by omega) (by omega) (by omega) (by omega) (by omega) H13 (by have q0 := P_a0_b2.out; have q1 := P_a1_b1.out; have q2 := P_a2_b0.out; have q3 := P_a3_b4.out; exact hid (by omega))).mono ?_
  rintro e w14 ⟨h14, l14, rfl, ⟨p14a, p14b⟩, ⟨p14c, p14d⟩, H14, hb14⟩
  have S14 := T13.call hb14
  obtain ⟨c0, c1, f0, f1⟩ := S14.cell (List.mem_cons_self ..)
  go_wp2_with fail
  have T14 := S14.store l14 h14
  generalize (w14.setCell ⟨B2, 0, none⟩ (.int .u64 l14)).setCell ⟨B2, 1, none⟩ (.int .u64 h14) = W14 at T14 ⊢
  clear hb14 S14 T13 c0 c1 f0 f1 H13 p13a p13b p13c p13d
  refine (addMul19_any l14 h14 _ a4 b3 _ (by omega) (by omega) (by omega) (by omega) (by omega) (by omega) (by omega) (by omega) H14 (by have q0 := P_a0_b2.out; have q1 := P_a1_b1.out; have q2 := P_a2_b0.out; have q3 := P_a3_b4.out; have q4 := P_a4_b3.out; exact hid (by omega))).mono ?_
  rintro e w15 ⟨h15, l15, rfl, ⟨p15a, p15b⟩, ⟨p15c, p15d⟩, H15, hb15⟩
  have S15 := T14.call hb15
  obtain ⟨c0, c1, f0, f1⟩ := S15.cell (List.mem_cons_self ..)
  go_wp2_with fail
  have T15 := S15.store l15 h15
  generalize (w15.setCell ⟨B2, 0, none⟩ (.int .u64 l15)).setCell ⟨B2, 1, none⟩ (.int .u64 h15) = W15 at T15 ⊢
  clear hb15 S15 T14 c0 c1 f0 f1 H14 p14a p14b p14c p14d
  refine (mul_any a0 b3 _ (by omega) (by omega) (by omega) (by omega)).mono ?_
  rintro e w16 ⟨h16, l16, rfl, ⟨p16a, p16b⟩, ⟨p16c, p16d⟩, H16, hb16⟩
  have S16 := T15.call hb16
  go_wp2_with fail
  have T16 := S16.new l16 h16
  have N23 := T16.ne2 (List.mem_cons_self ..)
  generalize w16.alloc (.cells #[.int .u64 l16, .int .u64 h16] 119) = W16 at T16 ⊢
  generalize w16.heap.size = B3 at T16 N23 ⊢
  clear hb16 S16 T15
  refine (addMul_any l16 h16 _ a1 b2 _ (by omega) (by omega) (by omega) (by omega) (by omega) (by omega) (by omega) (by omega) H16 (by have q0 := P_a0_b3.out; have q1 := P_a1_b2.out; exact hid (by omega))).mono ?_
  rintro e w17 ⟨h17, l17, rfl, ⟨p17a, p17b⟩, ⟨p17c, p17d⟩, H17, hb17⟩
  have S17 := T16.call hb17
  obtain ⟨c0, c1, f0, f1⟩ := S17.cell (List.mem_cons_self ..)
  go_wp2_with fail
  have T17 := S17.store l17 h17
  generalize (w17.setCell ⟨B3, 0, none⟩ (.int .u64 l17)).setCell ⟨B3, 1, none⟩ (.int .u64 h17) = W17 at T17 ⊢
  clear hb17 S17 T16 c0 c1 f0 f1 H16 p16a p16b p16c p16d
  refine (addMul_any l17 h17 _ a2 b1 _ (by omega) (by omega) (by omega) (by omega) (by omega) (by omega) (by omega) (by omega) H17 (by have q0 := P_a0_b3.out; have q1 := P_a1_b2.out; have q2 := P_a2_b1.out; exact hid (by omega))).mono ?_
  rintro e w18 ⟨h18, l18, rfl, ⟨p18a, p18b⟩, ⟨p18c, p18d⟩, H18, hb18⟩
  have S18 := T17.call hb18
  obtain ⟨c0, c1, f0, f1⟩ := S18.cell (List.mem_cons_self ..)
  go_wp2_with fail
  have T18 := S18.store l18 h18
  generalize (w18.setCell ⟨B3, 0, none⟩ (.int .u64 l18)).setCell ⟨B3, 1, none⟩ (.int .u64 h18) = W18 at T18 ⊢
  clear hb18 S18 T17 c0 c1 f0 f1 H17 p17a p17b p17c p17d
  refine (addMul_any l18 h18 _ a3 b0 _ (by omega) (by omega) (by omega) (by omega) (by omega) (by omega) (by omega) (by omega) H18 (by have q0 := P_a0_b3.out; have q1 := P_a1_b2.out; have q2 := P_a2_b1.out; have q3 := P_a3_b0.out; exact hid (by omega))).mono ?_
  rintro e w19 ⟨h19, l19, rfl, ⟨p19a, p19b⟩, ⟨p19c, p19d⟩, H19, hb19⟩
  have S19 := T18.call hb19
  obtain ⟨c0, c1, f0, f1⟩ := S19.cell (List.mem_cons_self ..)
  go_wp2_with fail
  have T19 := S19.store l19 h19
  generalize (w19.setCell ⟨B3, 0, none⟩ (.int .u64 l19)).setCell ⟨B3, 1, none⟩ (.int .u64 h19) = W19 at T19 ⊢
  clear hb19 S19 T18 c0 c1 f0 f1 H18 p18a p18b p18c p18d
  refine (addMul19_any l19 h19 _ a4 b4 _ (by omega) (by omega) (by omega) (by omega) (by omega) (by omega) (by omega) (by omega) H19 (by have q0 := P_a0_b3.out; have q1 := P_a1_b2.out; have q2 := P_a2_b1.out; have q3 := P_a3_b0.out; have q4 := P_a4_b4.out; exact hid (by omega))).mono ?_
  rintro e w20 ⟨h20, l20, rfl, ⟨p20a, p20b⟩, ⟨p20c, p20d⟩, H20, hb20⟩
  have S20 := T19.call hb20
  obtain ⟨c0, c1, f0, f1⟩ := S20.cell (List.mem_cons_self ..)
  go_wp2_with fail
  have T20 := S20.store l20 h20
  generalize (w20.setCell ⟨B3, 0, none⟩ (.int .u64 l20)).setCell ⟨B3, 1, none⟩ (.int .u64 h20) = W20 at T20 ⊢
  clear hb20 S20 T19 c0 c1 f0 f1 H19 p19a p19b p19c p19d
  refine (mul_any a0 b4 _ (by omega) (by omega) (by omega) (by omega)).mono ?_
  rintro e w21 ⟨h21, l21, rfl, ⟨p21a, p21b⟩, ⟨p21c, p21d⟩, H21, hb21⟩
  have S21 := T20.call hb21
  go_wp2_with fail
  have T21 := S21.new l21 h21
  have N34 := T21.ne2 (List.mem_cons_self ..)
  generalize w21.alloc (.cells #[.int .u64 l21, .int .u64 h21] 119) = W21 at T21 ⊢
  generalize w21.heap.size = B4 at T21 N34 ⊢
  clear hb21 S21 T20
  refine (addMul_any l21 h21 _ a1 b3 _ (by omega) (by omega) (by omega) (by omega) (by omega) (by omega) (by omega) (by omega) H21 (by have q0 := P_a0_b4.out; have q1 := P_a1_b3.out; exact hid (by omega))).mono ?_
  rintro e w22 ⟨h22, l22, rfl, ⟨p22a, p22b⟩, ⟨p22c, p22d⟩, H22, hb22⟩
  have S22 := T21.call hb22
  obtain ⟨c0, c1, f0, f1⟩ := S22.cell (List.mem_cons_self ..)
  go_wp2_with fail
  have T22 := S22.store l22 h22
  generalize (w22.setCell ⟨B4, 0, none⟩ (.int .u64 l22)).setCell ⟨B4, 1, none⟩ (.int .u64 h22) = W22 at T22 ⊢
  clear hb22 S22 T21 c0 c1 f0 f1 H21 p21a p21b p21c p21d
  refine (addMul_any l22 h22 _ a2 b2 _ (by omega) (by omega) (by omega) (by omega) (by omega) (by omega) (by omega) (by omega) H22 (by have q0 := P_a0_b4.out; have q1 := P_a1_b3.out; have q2 := P_a2_b2.out; exact hid (by omega))).mono ?_
  rintro e w23 ⟨h23, l23, rfl, ⟨p23a, p23b⟩, ⟨p23c, p23d⟩, H23, hb23⟩
  have S23 := T22.call hb23
  obtain ⟨c0, c1, f0, f1⟩ := S23.cell (List.mem_cons_self ..)
  go_wp2_with fail
  have T23 := S23.store l23 h23
  generalize (w23.setCell ⟨B4, 0, none⟩ (.int .u64 l23)).setCell ⟨B4, 1, none⟩ (.int .u64 h23) = W23 at T23 ⊢
  clear hb23 S23 T22 c0 c1 f0 f1 H22 p22a p22b p22c p22d
  refine (addMul_any l23 h23 _ a3 b1 _ (by omega) (by omega) (by omega) (by omega) (by omega) (by omega) (by omega) (by omega) H23 (by have q0 := P_a0_b4.out; have q1 := P_a1_b3.out; have q2 := P_a2_b2.out; have q3 := P_a3_b1.out; exact hid (by omega))).mono ?_
  rintro e w24 ⟨h24, l24, rfl, ⟨p24a, p24b⟩, ⟨p24c, p24d⟩, H24, hb24⟩
  have S24 := T23.call hb24
  obtain ⟨c0, c1, f0, f1⟩ := S24.cell (List.mem_cons_self ..)
  go_wp2_with fail
  have T24 := S24.store l24 h24
  generalize (w24.setCell ⟨B4, 0, none⟩ (.int .u64 l24)).setCell ⟨B4, 1, none⟩ (.int .u64 h24) = W24 at T24 ⊢
  clear hb24 S24 T23 c0 c1 f0 f1 H23 p23a p23b p23c p23d
  refine (addMul_any l24 h24 _ a4 b0 _ (by omega) (by omega) (by omega) (by omega) (by omega) (by omega) (by omega) (by omega) H24 (by have q0 := P_a0_b4.out; have q1 := P_a1_b3.out; have q2 := P_a2_b2.out; have q3 := P_a3_b1.out; have q4 := P_a4_b0.out; exact hid (by omega))).mono ?_
  rintro e w25 ⟨h25, l25, rfl, ⟨p25a, p25b⟩, ⟨p25c, p25d⟩, H25, hb25⟩
  have S25 := T24.call hb25
  obtain ⟨c0, c1, f0, f1⟩ := S25.cell (List.mem_cons_self ..)
  obtain ⟨d0, d1, -, -⟩ := S25.cell (List.mem_cons_of_mem _ (List.mem_cons_of_mem _ (List.mem_cons_of_mem _ (List.mem_cons_of_mem _ (List.mem_cons_self ..)))))
  have n1 := S25.ne2 (List.mem_cons_of_mem _ (List.mem_cons_of_mem _ (List.mem_cons_of_mem _ (List.mem_cons_self ..))))
  have n2 := n1.symm
  go_wp2_with fail
  have T25 := S25.store l25 h25
  generalize (w25.setCell ⟨B4, 0, none⟩ (.int .u64 l25)).setCell ⟨B4, 1, none⟩ (.int .u64 h25) = W25 at T25 ⊢
  clear hb25 S25 T24 c0 c1 f0 f1 H24 p24a p24b p24c p24d d0 d1 n1 n2
  refine (shift51_any l5 h5 _ _ (by omega) (by omega) (by omega) H5 (by have q0 := P_a0_b0.out; have q1 := P_a1_b4.out; have q2 := P_a2_b3.out; have q3 := P_a3_b2.out; have q4 := P_a4_b1.out; exact hid (by omega))).mono ?_
  rintro e v0 ⟨k0, rfl, nk0, K0, hb⟩
  have U0 := T25.call hb
  clear hb T25
  have mk0 : k0 < 1152921504606846976 := by have q0 := P_a0_b0.out; have q1 := P_a1_b4.out; have q2 := P_a2_b3.out; have q3 := P_a3_b2.out; have q4 := P_a4_b1.out; have := K0.out; omega
  obtain ⟨d0, d1, -, -⟩ := U0.cell (List.mem_cons_of_mem _ (List.mem_cons_of_mem _ (List.mem_cons_of_mem _ (List.mem_cons_self ..))))
  go_wp2_with fail
  clear d0 d1
  refine (shift51_any l10 h10 _ _ (by omega) (by omega) (by omega) H10 (by have q0 := P_a0_b1.out; have q1 := P_a1_b0.out; have q2 := P_a2_b4.out; have q3 := P_a3_b3.out; have q4 := P_a4_b2.out; exact hid (by omega))).mono ?_
  rintro e v1 ⟨k1, rfl, nk1, K1, hb⟩
  have U1 := U0.call hb
  clear hb U0
  have mk1 : k1 < 1152921504606846976 := by have q0 := P_a0_b1.out; have q1 := P_a1_b0.out; have q2 := P_a2_b4.out; have q3 := P_a3_b3.out; have q4 := P_a4_b2.out; have := K1.out; omega
  obtain ⟨d0, d1, -, -⟩ := U1.cell (List.mem_cons_of_mem _ (List.mem_cons_of_mem _ (List.mem_cons_self ..)))
  go_wp2_with fail
  clear d0 d1
  refine (shift51_any l15 h15 _ _ (by omega) (by omega) (by omega) H15 (by have q0 := P_a0_b2.out; have q1 := P_a1_b1.out; have q2 := P_a2_b0.out; have q3 := P_a3_b4.out; have q4 := P_a4_b3.out; exact hid (by omega))).mono ?_
  rintro e v2 ⟨k2, rfl, nk2, K2, hb⟩
  have U2 := U1.call hb
  clear hb U1
  have mk2 : k2 < 1152921504606846976 := by have q0 := P_a0_b2.out; have q1 := P_a1_b1.out; have q2 := P_a2_b0.out; have q3 := P_a3_b4.out; have q4 := P_a4_b3.out; have := K2.out; omega
  obtain ⟨d0, d1, -, -⟩ := U2.cell (List.mem_cons_of_mem _ (List.mem_cons_self ..))
  go_wp2_with fail
  clear d0 d1
  refine (shift51_any l20 h20 _ _ (by omega) (by omega) (by omega) H20 (by have q0 := P_a0_b3.out; have q1 := P_a1_b2.out; have q2 := P_a2_b1.out; have q3 := P_a3_b0.out; have q4 := P_a4_b4.out; exact hid (by omega))).mono ?_
  rintro e v3 ⟨k3, rfl, nk3, K3, hb⟩
  have U3 := U2.call hb
  clear hb U2
  have mk3 : k3 < 1152921504606846976 := by have q0 := P_a0_b3.out; have q1 := P_a1_b2.out; have q2 := P_a2_b1.out; have q3 := P_a3_b0.out; have q4 := P_a4_b4.out; have := K3.out; omega
  obtain ⟨d0, d1, -, -⟩ := U3.cell (List.mem_cons_self ..)
  go_wp2_with fail
  clear d0 d1
  refine (shift51_any l25 h25 _ _ (by omega) (by omega) (by omega) H25 (by have q0 := P_a0_b4.out; have q1 := P_a1_b3.out; have q2 := P_a2_b2.out; have q3 := P_a3_b1.out; have q4 := P_a4_b0.out; exact hid (by omega))).mono ?_
  rintro e v4 ⟨k4, rfl, nk4, K4, hb⟩
  have U4 := U3.call hb
  clear hb U3
  have mk4 : k4 < 1152921504606846976 := by have q0 := P_a0_b4.out; have q1 := P_a1_b3.out; have q2 := P_a2_b2.out; have q3 := P_a3_b1.out; have q4 := P_a4_b0.out; have := K4.out; omega
  have mk4' : k4 < 72057594037927936 := by have q0 := P_a0_b4.out; have q1 := P_a1_b3.out; have q2 := P_a2_b2.out; have q3 := P_a3_b1.out; have q4 := P_a4_b0.out; have := K4.out; omega
  obtain ⟨d0, -, -, -⟩ := U4.cell (List.mem_cons_of_mem _ (List.mem_cons_of_mem _ (List.mem_cons_of_mem _ (List.mem_cons_of_mem _ (List.mem_cons_self ..)))))
  obtain ⟨d1, -, -, -⟩ := U4.cell (List.mem_cons_of_mem _ (List.mem_cons_of_mem _ (List.mem_cons_of_mem _ (List.mem_cons_self ..))))
  obtain ⟨d2, -, -, -⟩ := U4.cell (List.mem_cons_of_mem _ (List.mem_cons_of_mem _ (List.mem_cons_self ..)))
  obtain ⟨d3, -, -, -⟩ := U4.cell (List.mem_cons_of_mem _ (List.mem_cons_self ..))
  obtain ⟨d4, -, -, -⟩ := U4.cell (List.mem_cons_self ..)
  have A0 := and51 l5 (by omega) (by omega)
  have A1 := and51 l10 (by omega) (by omega)
  have A2 := and51 l15 (by omega) (by omega)
  have A3 := and51 l20 (by omega) (by omega)
  have A4 := and51 l25 (by omega) (by omega)
  have C0 := and51 (l5 % 2251799813685248 + 19 * k4) (by omega) (by omega)
  have C1 := and51 (l10 % 2251799813685248 + k0) (by omega) (by omega)
  have C2 := and51 (l15 % 2251799813685248 + k1) (by omega) (by omega)
  have C3 := and51 (l20 % 2251799813685248 + k2) (by omega) (by omega)
  have C4 := and51 (l25 % 2251799813685248 + k3) (by omega) (by omega)
  go_wp2_with fail
  go_quiet ((go_at_call 89; exact Calls.quiet_of_same (mul19_q _ _ (by omega) (by omega))))
  have S5 := U4.drewN nq
  clear d0 d1 d2 d3 d4 U4
  generalize v4.drewN nq = X at S5 ⊢
  obtain ⟨d1, -, -, -⟩ := S5.cell (List.mem_cons_of_mem _ (List.mem_cons_of_mem _ (List.mem_cons_of_mem _ (List.mem_cons_self ..))))
  obtain ⟨d2, -, -, -⟩ := S5.cell (List.mem_cons_of_mem _ (List.mem_cons_of_mem _ (List.mem_cons_self ..)))
  obtain ⟨d3, -, -, -⟩ := S5.cell (List.mem_cons_of_mem _ (List.mem_cons_self ..))
  obtain ⟨d4, -, -, -⟩ := S5.cell (List.mem_cons_self ..)
  obtain ⟨⟨z0, z1, z2, z3, z4, g0, g1, g2, g3, g4⟩, fz0, fz1, fz2, fz3, fz4⟩ := HV.out
  have hlt := World.block_lt_of_cell? _ _ g0
  rw [← (S5.old (p := ⟨bv, ov, none⟩) hlt).1] at g0
  rw [← (S5.old (p := ⟨bv, ov + 1, none⟩) hlt).1] at g1
  rw [← (S5.old (p := ⟨bv, ov + 2, none⟩) hlt).1] at g2
  rw [← (S5.old (p := ⟨bv, ov + 3, none⟩) hlt).1] at g3
  rw [← (S5.old (p := ⟨bv, ov + 4, none⟩) hlt).1] at g4
  rw [← (S5.old (p := ⟨bv, ov, none⟩) hlt).2] at fz0
  rw [← (S5.old (p := ⟨bv, ov + 1, none⟩) hlt).2] at fz1
  rw [← (S5.old (p := ⟨bv, ov + 2, none⟩) hlt).2] at fz2
  rw [← (S5.old (p := ⟨bv, ov + 3, none⟩) hlt).2] at fz3
  rw [← (S5.old (p := ⟨bv, ov + 4, none⟩) hlt).2] at fz4
  go_wp2_with fail
  refine (mul19_any ((l25 % 2251799813685248 + k3) / 2251799813685248) _ (by omega) (by omega)).mono ?_
  rintro e w' ⟨rfl, rfl⟩
  go_wp2_with fail
  go_end0
  exact wrote_mk S5.below K0 K1 K2 K3 K4 nk0 nk1 nk2 nk3 nk4 (by have q0 := P_a0_b0.out; have q1 := P_a1_b4.out; have q2 := P_a2_b3.out; have q3 := P_a3_b2.out; have q4 := P_a4_b1.out; omega) (by have q0 := P_a0_b1.out; have q1 := P_a1_b0.out; have q2 := P_a2_b4.out; have q3 := P_a3_b3.out; have q4 := P_a4_b2.out; omega) (by have q0 := P_a0_b2.out; have q1 := P_a1_b1.out; have q2 := P_a2_b0.out; have q3 := P_a3_b4.out; have q4 := P_a4_b3.out; omega) (by have q0 := P_a0_b3.out; have q1 := P_a1_b2.out; have q2 := P_a2_b1.out; have q3 := P_a3_b0.out; have q4 := P_a4_b4.out; omega) (by have q0 := P_a0_b4.out; have q1 := P_a1_b3.out; have q2 := P_a2_b2.out; have q3 := P_a3_b1.out; have q4 := P_a4_b0.out; omega)

end Go.Proofs.YtflmkgecgijncaaDoor
