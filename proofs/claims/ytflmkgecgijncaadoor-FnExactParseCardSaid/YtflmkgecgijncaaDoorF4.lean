/-
  feSquare: what it writes is the square modulo 2^255 - 19. Walk printed by gen_mul.py.
-/
import Derived.Test.YtflmkgecgijncaaDoorF3
namespace Go.Proofs.YtflmkgecgijncaaDoor
open Go.RowKit Go.Shelf

set_option maxRecDepth 100000 in
set_option maxHeartbeats 4000000 in
theorem feSquare_any (bv ov ba oa : Nat) (a0 a1 a2 a3 a4 : Int) (w : World) (hv : Room w bv ov) (ha : Limbs w ba oa a0 a1 a2 a3 a4) 
    (sa : Small a0 a1 a2 a3 a4) :
    Calls Tryd.prog 79 #[.pointer (some ⟨bv, ov, none⟩), .pointer (some ⟨ba, oa, none⟩)] w (Wrote w bv ov (val (a0 * a0 + 38 * (a1 * a4) + 38 * (a2 * a3)) ((a0 * 2) * a1 + 38 * (a2 * a4) + 19 * (a3 * a3)) ((a0 * 2) * a2 + a1 * a1 + 38 * (a3 * a4)) ((a0 * 2) * a3 + (a1 * 2) * a2 + 19 * (a4 * a4)) ((a0 * 2) * a4 + (a1 * 2) * a3 + a2 * a2)) (.tuple #[])) := by
  obtain ⟨ca0, ca1, ca2, ca3, ca4⟩ := ha
  obtain ⟨⟨la0, ua0⟩, ⟨la1, ua1⟩, ⟨la2, ua2⟩, ⟨la3, ua3⟩, ⟨la4, ua4⟩⟩ := sa
  have P_a0_a0 := limb_mul la0 ua0 la0 ua0
  have P_a1_a4 := limb_mul la1 ua1 la4 ua4
  have P_a2_a3 := limb_mul la2 ua2 la3 ua3
  have P_a0t_a1 : Hid (0 ≤ (a0 * 2) * a1 ∧ (a0 * 2) * a1 ≤ 40564819207303340847894502572032) := limb_mul2 la0 ua0 la1 ua1
  have P_a2_a4 := limb_mul la2 ua2 la4 ua4
  have P_a3_a3 := limb_mul la3 ua3 la3 ua3
  have P_a0t_a2 : Hid (0 ≤ (a0 * 2) * a2 ∧ (a0 * 2) * a2 ≤ 40564819207303340847894502572032) := limb_mul2 la0 ua0 la2 ua2
  have P_a1_a1 := limb_mul la1 ua1 la1 ua1
  have P_a3_a4 := limb_mul la3 ua3 la4 ua4
  have P_a0t_a3 : Hid (0 ≤ (a0 * 2) * a3 ∧ (a0 * 2) * a3 ≤ 40564819207303340847894502572032) := limb_mul2 la0 ua0 la3 ua3
  have P_a1t_a2 : Hid (0 ≤ (a1 * 2) * a2 ∧ (a1 * 2) * a2 ≤ 40564819207303340847894502572032) := limb_mul2 la1 ua1 la2 ua2
  have P_a4_a4 := limb_mul la4 ua4 la4 ua4
  have P_a0t_a4 : Hid (0 ≤ (a0 * 2) * a4 ∧ (a0 * 2) * a4 ≤ 40564819207303340847894502572032) := limb_mul2 la0 ua0 la4 ua4
  have P_a1t_a3 : Hid (0 ≤ (a1 * 2) * a3 ∧ (a1 * 2) * a3 ≤ 40564819207303340847894502572032) := limb_mul2 la1 ua1 la3 ua3
  have P_a2_a2 := limb_mul la2 ua2 la2 ua2
  have HV : Hid (Room w bv ov) := hid hv
  clear hv
  have S0 := St.refl w
  go_enter Tryd.func79, Tryd.ntmps79
  go_wp2_with fail
  clear ca0 ca1 ca2 ca3 ca4
  refine (mul_any a0 a0 _ (by omega) (by omega) (by omega) (by omega)).mono ?_
  rintro e w1 ⟨h1, l1, rfl, ⟨p1a, p1b⟩, ⟨p1c, p1d⟩, H1, hb1⟩
  have S1 := S0.call hb1
  go_wp2_with fail
  have T1 := S1.new l1 h1
  generalize w1.alloc (.cells #[.int .u64 l1, .int .u64 h1] 119) = W1 at T1 ⊢
  generalize w1.heap.size = B0 at T1  ⊢
  clear hb1 S1 S0
  refine (addMul38_any l1 h1 _ a1 a4 _ (by omega) (by omega) (by omega) (by omega) (by omega) (by omega) (by omega) (by omega) H1 (by have q0 := P_a0_a0.out; have q1 := P_a1_a4.out; exact hid (by omega))).mono ?_
  rintro e w2 ⟨h2, l2, rfl, ⟨p2a, p2b⟩, ⟨p2c, p2d⟩, H2, hb2⟩
  have S2 := T1.call hb2
  obtain ⟨c0, c1, f0, f1⟩ := S2.cell (List.mem_cons_self ..)
  go_wp2_with fail
  have T2 := S2.store l2 h2
  generalize (w2.setCell ⟨B0, 0, none⟩ (.int .u64 l2)).setCell ⟨B0, 1, none⟩ (.int .u64 h2) = W2 at T2 ⊢
  clear hb2 S2 T1 c0 c1 f0 f1 H1 p1a p1b p1c p1d
  refine (addMul38_any l2 h2 _ a2 a3 _ (by omega) (by omega) (by omega) (by omega) (by omega) (by omega) (by omega) (by omega) H2 (by have q0 := P_a0_a0.out; have q1 := P_a1_a4.out; have q2 := P_a2_a3.out; exact hid (by omega))).mono ?_
  rintro e w3 ⟨h3, l3, rfl, ⟨p3a, p3b⟩, ⟨p3c, p3d⟩, H3, hb3⟩
  have S3 := T2.call hb3
  obtain ⟨c0, c1, f0, f1⟩ := S3.cell (List.mem_cons_self ..)
  go_wp2_with fail
  have T3 := S3.store l3 h3
  generalize (w3.setCell ⟨B0, 0, none⟩ (.int .u64 l3)).setCell ⟨B0, 1, none⟩ (.int .u64 h3) = W3 at T3 ⊢
  clear hb3 S3 T2 c0 c1 f0 f1 H2 p2a p2b p2c p2d
  refine (mul_any (a0 * 2) a1 _ (by omega) (by omega) (by omega) (by omega)).mono ?_
  rintro e w4 ⟨h4, l4, rfl, ⟨p4a, p4b⟩, ⟨p4c, p4d⟩, H4, hb4⟩
  have S4 := T3.call hb4
  go_wp2_with fail
  have T4 := S4.new l4 h4
  have N01 := T4.ne2 (List.mem_cons_self ..)
  generalize w4.alloc (.cells #[.int .u64 l4, .int .u64 h4] 119) = W4 at T4 ⊢
  generalize w4.heap.size = B1 at T4 N01 ⊢
  clear hb4 S4 T3
  refine (addMul38_any l4 h4 _ a2 a4 _ (by omega) (by omega) (by omega) (by omega) (by omega) (by omega) (by omega) (by omega) H4 (by have q0 := P_a0t_a1.out; have q1 := P_a2_a4.out; exact hid (by omega))).mono ?_
  rintro e w5 ⟨h5, l5, rfl, ⟨p5a, p5b⟩, ⟨p5c, p5d⟩, H5, hb5⟩
  have S5 := T4.call hb5
  obtain ⟨c0, c1, f0, f1⟩ := S5.cell (List.mem_cons_self ..)
  go_wp2_with fail
  have T5 := S5.store l5 h5
  generalize (w5.setCell ⟨B1, 0, none⟩ (.int .u64 l5)).setCell ⟨B1, 1, none⟩ (.int .u64 h5) = W5 at T5 ⊢
  clear hb5 S5 T4 c0 c1 f0 f1 H4 p4a p4b p4c p4d
  refine (addMul19_any l5 h5 _ a3 a3 _ (by omega) (by omega) (by omega) (by omega) (by omega) (by omega) (by omega) (by omega) H5 (by have q0 := P_a0t_a1.out; have q1 := P_a2_a4.out; have q2 := P_a3_a3.out; exact hid (by omega))).mono ?_
  rintro e w6 ⟨h6, l6, rfl, ⟨p6a, p6b⟩, ⟨p6c, p6d⟩, H6, hb6⟩
  have S6 := T5.call hb6
  obtain ⟨c0, c1, f0, f1⟩ := S6.cell (List.mem_cons_self ..)
  go_wp2_with fail
  have T6 := S6.store l6 h6
  generalize (w6.setCell ⟨B1, 0, none⟩ (.int .u64 l6)).setCell ⟨B1, 1, none⟩ (.int .u64 h6) = W6 at T6 ⊢
  clear hb6 S6 T5 c0 c1 f0 f1 H5 p5a p5b p5c p5d
  refine (mul_any (a0 * 2) a2 _ (by omega) (by omega) (by omega) (by omega)).mono ?_
  rintro e w7 ⟨h7, l7, rfl, ⟨p7a, p7b⟩, ⟨p7c, p7d⟩, H7, hb7⟩
  have S7 := T6.call hb7
  go_wp2_with fail
  have T7 := S7.new l7 h7
  have N12 := T7.ne2 (List.mem_cons_self ..)
  generalize w7.alloc (.cells #[.int .u64 l7, .int .u64 h7] 119) = W7 at T7 ⊢
  generalize w7.heap.size = B2 at T7 N12 ⊢
  clear hb7 S7 T6
  refine (addMul_any l7 h7 _ a1 a1 _ (by omega) (by omega) (by omega) (by omega) (by omega) (by omega) (by omega) (by omega) H7 (by have q0 := P_a0t_a2.out; have q1 := P_a1_a1.out; exact hid (by omega))).mono ?_
  rintro e w8 ⟨h8, l8, rfl, ⟨p8a, p8b⟩, ⟨p8c, p8d⟩, H8, hb8⟩
  have S8 := T7.call hb8
  obtain ⟨c0, c1, f0, f1⟩ := S8.cell (List.mem_cons_self ..)
  go_wp2_with fail
  have T8 := S8.store l8 h8
  generalize (w8.setCell ⟨B2, 0, none⟩ (.int .u64 l8)).setCell ⟨B2, 1, none⟩ (.int .u64 h8) = W8 at T8 ⊢
  clear hb8 S8 T7 c0 c1 f0 f1 H7 p7a p7b p7c p7d
  refine (addMul38_any l8 h8 _ a3 a4 _ (by omega) (by omega) (by omega) (by omega) (by omega) (by omega) (by omega) (by omega) H8 (by have q0 := P_a0t_a2.out; have q1 := P_a1_a1.out; have q2 := P_a3_a4.out; exact hid (by omega))).mono ?_
  rintro e w9 ⟨h9, l9, rfl, ⟨p9a, p9b⟩, ⟨p9c, p9d⟩, H9, hb9⟩
  have S9 := T8.call hb9
  obtain ⟨c0, c1, f0, f1⟩ := S9.cell (List.mem_cons_self ..)
  go_wp2_with fail
  have T9 := S9.store l9 h9
  generalize (w9.setCell ⟨B2, 0, none⟩ (.int .u64 l9)).setCell ⟨B2, 1, none⟩ (.int .u64 h9) = W9 at T9 ⊢
  clear hb9 S9 T8 c0 c1 f0 f1 H8 p8a p8b p8c p8d
  refine (mul_any (a0 * 2) a3 _ (by omega) (by omega) (by omega) (by omega)).mono ?_
  rintro e w10 ⟨h10, l10, rfl, ⟨p10a, p10b⟩, ⟨p10c, p10d⟩, H10, hb10⟩
  have S10 := T9.call hb10
  go_wp2_with fail
  have T10 := S10.new l10 h10
  have N23 := T10.ne2 (List.mem_cons_self ..)
  generalize w10.alloc (.cells #[.int .u64 l10, .int .u64 h10] 119) = W10 at T10 ⊢
  generalize w10.heap.size = B3 at T10 N23 ⊢
  clear hb10 S10 T9
  refine (addMul_any l10 h10 _ (a1 * 2) a2 _ (by omega) (by omega) (by omega) (by omega) (by omega) (by omega) (by omega) (by omega) H10 (by have q0 := P_a0t_a3.out; have q1 := P_a1t_a2.out; exact hid (by omega))).mono ?_
  rintro e w11 ⟨h11, l11, rfl, ⟨p11a, p11b⟩, ⟨p11c, p11d⟩, H11, hb11⟩
  have S11 := T10.call hb11
  obtain ⟨c0, c1, f0, f1⟩ := S11.cell (List.mem_cons_self ..)
  go_wp2_with fail
  have T11 := S11.store l11 h11
  generalize (w11.setCell ⟨B3, 0, none⟩ (.int .u64 l11)).setCell ⟨B3, 1, none⟩ (.int .u64 h11) = W11 at T11 ⊢
  clear hb11 S11 T10 c0 c1 f0 f1 H10 p10a p10b p10c p10d
  refine (addMul19_any l11 h11 _ a4 a4 _ (by omega) (by omega) (by omega) (by omega) (by omega) (by omega) (by omega) (by omega) H11 (by have q0 := P_a0t_a3.out; have q1 := P_a1t_a2.out; have q2 := P_a4_a4.out; exact hid (by omega))).mono ?_
  rintro e w12 ⟨h12, l12, rfl, ⟨p12a, p12b⟩, ⟨p12c, p12d⟩, H12, hb12⟩
  have S12 := T11.call hb12
  obtain ⟨c0, c1, f0, f1⟩ := S12.cell (List.mem_cons_self ..)
  go_wp2_with fail
  have T12 := S12.store l12 h12
  generalize (w12.setCell ⟨B3, 0, none⟩ (.int .u64 l12)).setCell ⟨B3, 1, none⟩ (.int .u64 h12) = W12 at T12 ⊢
  clear hb12 S12 T11 c0 c1 f0 f1 H11 p11a p11b p11c p11d
  refine (mul_any (a0 * 2) a4 _ (by omega) (by omega) (by omega) (by omega)).mono ?_
  rintro e w13 ⟨h13, l13, rfl, ⟨p13a, p13b⟩, ⟨p13c, p13d⟩, H13, hb13⟩
  have S13 := T12.call hb13
  go_wp2_with fail
  have T13 := S13.new l13 h13
  have N34 := T13.ne2 (List.mem_cons_self ..)
  generalize w13.alloc (.cells #[.int .u64 l13, .int .u64 h13] 119) = W13 at T13 ⊢
  generalize w13.heap.size = B4 at T13 N34 ⊢
  clear hb13 S13 T12
  refine (addMul_any l13 h13 _ (a1 * 2) a3 _ (by omega) (by omega) (by omega) (by omega) (by omega) (by omega) (by omega) (by omega) H13 (by have q0 := P_a0t_a4.out; have q1 := P_a1t_a3.out; exact hid (by omega))).mono ?_
  rintro e w14 ⟨h14, l14, rfl, ⟨p14a, p14b⟩, ⟨p14c, p14d⟩, H14, hb14⟩
  have S14 := T13.call hb14
  obtain ⟨c0, c1, f0, f1⟩ := S14.cell (List.mem_cons_self ..)
  go_wp2_with fail
  have T14 := S14.store l14 h14
  generalize (w14.setCell ⟨B4, 0, none⟩ (.int .u64 l14)).setCell ⟨B4, 1, none⟩ (.int .u64 h14) = W14 at T14 ⊢
  clear hb14 S14 T13 c0 c1 f0 f1 H13 p13a p13b p13c p13d
  refine (addMul_any l14 h14 _ a2 a2 _ (by omega) (by omega) (by omega) (by omega) (by omega) (by omega) (by omega) (by omega) H14 (by have q0 := P_a0t_a4.out; have q1 := P_a1t_a3.out; have q2 := P_a2_a2.out; exact hid (by omega))).mono ?_
  rintro e w15 ⟨h15, l15, rfl, ⟨p15a, p15b⟩, ⟨p15c, p15d⟩, H15, hb15⟩
  have S15 := T14.call hb15
  obtain ⟨c0, c1, f0, f1⟩ := S15.cell (List.mem_cons_self ..)
  obtain ⟨d0, d1, -, -⟩ := S15.cell (List.mem_cons_of_mem _ (List.mem_cons_of_mem _ (List.mem_cons_of_mem _ (List.mem_cons_of_mem _ (List.mem_cons_self ..)))))
  have n1 := S15.ne2 (List.mem_cons_of_mem _ (List.mem_cons_of_mem _ (List.mem_cons_of_mem _ (List.mem_cons_self ..))))
  have n2 := n1.symm
  go_wp2_with fail
  have T15 := S15.store l15 h15
  generalize (w15.setCell ⟨B4, 0, none⟩ (.int .u64 l15)).setCell ⟨B4, 1, none⟩ (.int .u64 h15) = W15 at T15 ⊢
  clear hb15 S15 T14 c0 c1 f0 f1 H14 p14a p14b p14c p14d d0 d1 n1 n2
  refine (shift51_any l3 h3 _ _ (by omega) (by omega) (by omega) H3 (by have q0 := P_a0_a0.out; have q1 := P_a1_a4.out; have q2 := P_a2_a3.out; exact hid (by omega))).mono ?_
  rintro e v0 ⟨k0, rfl, nk0, K0, hb⟩
  have U0 := T15.call hb
  clear hb T15
  have mk0 : k0 < 1152921504606846976 := by have q0 := P_a0_a0.out; have q1 := P_a1_a4.out; have q2 := P_a2_a3.out; have := K0.out; omega
  obtain ⟨d0, d1, -, -⟩ := U0.cell (List.mem_cons_of_mem _ (List.mem_cons_of_mem _ (List.mem_cons_of_mem _ (List.mem_cons_self ..))))
  go_wp2_with fail
  clear d0 d1
  refine (shift51_any l6 h6 _ _ (by omega) (by omega) (by omega) H6 (by have q0 := P_a0t_a1.out; have q1 := P_a2_a4.out; have q2 := P_a3_a3.out; exact hid (by omega))).mono ?_
  rintro e v1 ⟨k1, rfl, nk1, K1, hb⟩
  have U1 := U0.call hb
  clear hb U0
  have mk1 : k1 < 1152921504606846976 := by have q0 := P_a0t_a1.out; have q1 := P_a2_a4.out; have q2 := P_a3_a3.out; have := K1.out; omega
  obtain ⟨d0, d1, -, -⟩ := U1.cell (List.mem_cons_of_mem _ (List.mem_cons_of_mem _ (List.mem_cons_self ..)))
  go_wp2_with fail
  clear d0 d1
  refine (shift51_any l9 h9 _ _ (by omega) (by omega) (by omega) H9 (by have q0 := P_a0t_a2.out; have q1 := P_a1_a1.out; have q2 := P_a3_a4.out; exact hid (by omega))).mono ?_
  rintro e v2 ⟨k2, rfl, nk2, K2, hb⟩
  have U2 := U1.call hb
  clear hb U1
  have mk2 : k2 < 1152921504606846976 := by have q0 := P_a0t_a2.out; have q1 := P_a1_a1.out; have q2 := P_a3_a4.out; have := K2.out; omega
  obtain ⟨d0, d1, -, -⟩ := U2.cell (List.mem_cons_of_mem _ (List.mem_cons_self ..))
  go_wp2_with fail
  clear d0 d1
  refine (shift51_any l12 h12 _ _ (by omega) (by omega) (by omega) H12 (by have q0 := P_a0t_a3.out; have q1 := P_a1t_a2.out; have q2 := P_a4_a4.out; exact hid (by omega))).mono ?_
  rintro e v3 ⟨k3, rfl, nk3, K3, hb⟩
  have U3 := U2.call hb
  clear hb U2
  have mk3 : k3 < 1152921504606846976 := by have q0 := P_a0t_a3.out; have q1 := P_a1t_a2.out; have q2 := P_a4_a4.out; have := K3.out; omega
  obtain ⟨d0, d1, -, -⟩ := U3.cell (List.mem_cons_self ..)
  go_wp2_with fail
  clear d0 d1
  refine (shift51_any l15 h15 _ _ (by omega) (by omega) (by omega) H15 (by have q0 := P_a0t_a4.out; have q1 := P_a1t_a3.out; have q2 := P_a2_a2.out; exact hid (by omega))).mono ?_
  rintro e v4 ⟨k4, rfl, nk4, K4, hb⟩
  have U4 := U3.call hb
  clear hb U3
  have mk4 : k4 < 1152921504606846976 := by have q0 := P_a0t_a4.out; have q1 := P_a1t_a3.out; have q2 := P_a2_a2.out; have := K4.out; omega
  have mk4' : k4 < 72057594037927936 := by have q0 := P_a0t_a4.out; have q1 := P_a1t_a3.out; have q2 := P_a2_a2.out; have := K4.out; omega
  obtain ⟨d0, -, -, -⟩ := U4.cell (List.mem_cons_of_mem _ (List.mem_cons_of_mem _ (List.mem_cons_of_mem _ (List.mem_cons_of_mem _ (List.mem_cons_self ..)))))
  obtain ⟨d1, -, -, -⟩ := U4.cell (List.mem_cons_of_mem _ (List.mem_cons_of_mem _ (List.mem_cons_of_mem _ (List.mem_cons_self ..))))
  obtain ⟨d2, -, -, -⟩ := U4.cell (List.mem_cons_of_mem _ (List.mem_cons_of_mem _ (List.mem_cons_self ..)))
  obtain ⟨d3, -, -, -⟩ := U4.cell (List.mem_cons_of_mem _ (List.mem_cons_self ..))
  obtain ⟨d4, -, -, -⟩ := U4.cell (List.mem_cons_self ..)
  have A0 := and51 l3 (by omega) (by omega)
  have A1 := and51 l6 (by omega) (by omega)
  have A2 := and51 l9 (by omega) (by omega)
  have A3 := and51 l12 (by omega) (by omega)
  have A4 := and51 l15 (by omega) (by omega)
  have C0 := and51 (l3 % 2251799813685248 + 19 * k4) (by omega) (by omega)
  have C1 := and51 (l6 % 2251799813685248 + k0) (by omega) (by omega)
  have C2 := and51 (l9 % 2251799813685248 + k1) (by omega) (by omega)
  have C3 := and51 (l12 % 2251799813685248 + k2) (by omega) (by omega)
  have C4 := and51 (l15 % 2251799813685248 + k3) (by omega) (by omega)
  go_wp2_with fail
  go_quiet ((go_at_call 89; exact Calls.quiet_of_same (mul19_q _ _ (by omega) (by omega))))
  have S5 := U4.drewN nq
  clear d0 d1 d2 d3 d4 U4
  generalize v4.drewN nq = X at S5 ⊢
  obtain ⟨d1, -, -, -⟩ := S5.cell (List.mem_cons_of_mem _ (List.mem_cons_of_mem _ (List.mem_cons_of_mem _ (List.mem_cons_self ..))))
  obtain ⟨d2, -, -, -⟩ := S5.cell (List.mem_cons_of_mem _ (List.mem_cons_of_mem _ (List.mem_cons_self ..)))
  obtain ⟨d3, -, -, -⟩ := S5.cell (List.mem_cons_of_mem _ (List.mem_cons_self ..))
  obtain ⟨d4, -, -, -⟩ := S5.cell (List.mem_cons_self ..)
  obtain ⟨⟨z0, z1, z2, z3, z4, g0, g1, g2, g3, g4⟩, fz0, fz1, fz2, fz3, fz4⟩ := HV.out
  have hlt := World.block_lt_of_cell? _ _ g0
  rw [← (S5.old (p := ⟨bv, ov, none⟩) hlt).1] at g0
  rw [← (S5.old (p := ⟨bv, ov + 1, none⟩) hlt).1] at g1
  rw [← (S5.old (p := ⟨bv, ov + 2, none⟩) hlt).1] at g2
  rw [← (S5.old (p := ⟨bv, ov + 3, none⟩) hlt).1] at g3
  rw [← (S5.old (p := ⟨bv, ov + 4, none⟩) hlt).1] at g4
  rw [← (S5.old (p := ⟨bv, ov, none⟩) hlt).2] at fz0
  rw [← (S5.old (p := ⟨bv, ov + 1, none⟩) hlt).2] at fz1
  rw [← (S5.old (p := ⟨bv, ov + 2, none⟩) hlt).2] at fz2
  rw [← (S5.old (p := ⟨bv, ov + 3, none⟩) hlt).2] at fz3
  rw [← (S5.old (p := ⟨bv, ov + 4, none⟩) hlt).2] at fz4
  go_wp2_with fail
  refine (mul19_any ((l15 % 2251799813685248 + k3) / 2251799813685248) _ (by omega) (by omega)).mono ?_
  rintro e w' ⟨rfl, rfl⟩
  go_wp2_with fail
  go_end0
  exact wrote_mk S5.below K0 K1 K2 K3 K4 nk0 nk1 nk2 nk3 nk4 (by have q0 := P_a0_a0.out; have q1 := P_a1_a4.out; have q2 := P_a2_a3.out; omega) (by have q0 := P_a0t_a1.out; have q1 := P_a2_a4.out; have q2 := P_a3_a3.out; omega) (by have q0 := P_a0t_a2.out; have q1 := P_a1_a1.out; have q2 := P_a3_a4.out; omega) (by have q0 := P_a0t_a3.out; have q1 := P_a1t_a2.out; have q2 := P_a4_a4.out; omega) (by have q0 := P_a0t_a4.out; have q1 := P_a1t_a3.out; have q2 := P_a2_a2.out; omega)

end Go.Proofs.YtflmkgecgijncaaDoor
