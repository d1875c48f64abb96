/-
  spec.plus, spec.minus, spec.bit.
-/
import Derived.Test.YtflmkgecgijncaaDoorS5
namespace Go.Proofs.YtflmkgecgijncaaDoor
open Go.RowKit Go.Shelf Mth

theorem Sto.zero {w0 W : World} {B : Nat} {Bs : List (Nat × Obj)} (h : Sto w0 W B Bs) : Sto w0 (W.alloc (.cells (List.replicate 8 (Value.int .u64 0)).toArray 43)) B ((W.heap.size, nob 0) :: Bs) := by
  have := h.alloc (List.replicate 8 (Value.int .u64 0)).toArray 43
  rw [dob_new] at this; exact this

/-- Four new blocks: three numbers and a result. -/
theorem four_n (A B M : Int) (w : World) : Hid (Sto w ((((w.alloc (.cells (NV A) 43)).alloc (.cells (NV B) 43)).alloc (.cells (NV M) 43)).alloc (.cells (List.replicate 8 (Value.int .u64 0)).toArray 43)) w.heap.size [(w.heap.size + 1 + 1 + 1, nob 0), (w.heap.size + 1 + 1, nob M), (w.heap.size + 1, nob B), (w.heap.size, nob A)]) := by
  have S0 := ((((Sto.start w).alloc (NV A) 43).alloc (NV B) 43).alloc (NV M) 43).zero
  have e1 : (w.alloc (.cells (NV A) 43)).heap.size = w.heap.size + 1 := by simp
  have e2 : ((w.alloc (.cells (NV A) 43)).alloc (.cells (NV B) 43)).heap.size = w.heap.size + 1 + 1 := by simp
  have e3 : (((w.alloc (.cells (NV A) 43)).alloc (.cells (NV B) 43)).alloc (.cells (NV M) 43)).heap.size = w.heap.size + 1 + 1 + 1 := by simp
  rw [e1, e2, e3] at S0
  exact hid S0

set_option maxRecDepth 100000 in
set_option maxHeartbeats 1000000 in
theorem plus_any (A B M : Int) (a0 : 0 ≤ A) (b0 : 0 ≤ B) (a1 : A < M) (b1 : B < M) (m1 : M * 2 ≤ bp 8) (w : World) : Calls Tryd.prog 34 #[.agg (NV A), .agg (NV B), .agg (NV M)] w (RetN w ((A + B) % M)) := by
  have AB : Hid (0 ≤ A ∧ 0 ≤ B ∧ A < M ∧ B < M ∧ M * 2 ≤ bp 8) := hid ⟨a0, b0, a1, b1, m1⟩
  have L : Hid (A + B < bp 8 ∧ M < bp 8 ∧ 0 ≤ A + B ∧ 0 ≤ M) := hid (by omega)
  have E1 : Hid (A + B < M → (A + B) % M = A + B) := hid (fun h => Int.emod_eq_of_lt (by omega) h)
  have E2 : Hid (¬ A + B < M → (A + B) % M = A + B - M) := hid (fun h => by rw [← Int.sub_emod_right, Int.emod_eq_of_lt (by omega) (by omega)])
  clear a0 b0 a1 b1 m1
  have H := four_n A B M w
  go_enter Tryd.func34, Tryd.ntmps34
  by_cases hs : A + B < M
  · have HS := hid hs
    clear hs
    go_wp2_with (first
      | (refine load_n rfl _ rfl w.heap.size A rfl (H.out.mid [_, _, _]) ?_)
      | (refine load_n rfl _ rfl (w.heap.size + 1) B rfl (H.out.mid [_, _]) ?_)
      | (go_at_call 42; refine (sum_any A B AB.out.1 AB.out.2.1 L.out.1 _).mono ?_; rintro e w1 ⟨rfl, hb⟩; have H1 := hid (H.out.call hb).zero; clear H hb)
      | (refine store_n rfl _ _ rfl w1.heap.size (A + B) rfl rfl [] H1.out ?_; intro w2 H2; clear H1)
      | (refine load_n rfl _ rfl w1.heap.size (A + B) rfl (H2.out.mid []) ?_)
      | (refine load_n rfl _ rfl (w.heap.size + 1 + 1) M rfl (H2.out.mid [_, _]) ?_)
      | (go_at_call 53; refine (less_any (A + B) M L.out.2.2.1 L.out.2.2.2 L.out.1 L.out.2.1 true (by have := HS.out; symm; apply decide_eq_true; omega) _).mono ?_; rintro e w3 ⟨rfl, hb⟩; have H3 := hid (H2.out.call hb); clear H2 hb)
      | (refine load_n rfl _ rfl w1.heap.size (A + B) rfl (H3.out.mid []) ?_)
      | (refine store_n rfl _ _ rfl (w.heap.size + 1 + 1 + 1) (A + B) rfl rfl [_] H3.out ?_; intro w4 H4))
    rw [E1.out (by have := HS.out; omega)]
    exact ret_n (p := 6) rfl rfl (H4.out.mid [_]) rfl ⟨rfl, H4.out.below⟩
  · have HS := hid hs
    clear hs
    go_wp2_with (first
      | (refine load_n rfl _ rfl w.heap.size A rfl (H.out.mid [_, _, _]) ?_)
      | (refine load_n rfl _ rfl (w.heap.size + 1) B rfl (H.out.mid [_, _]) ?_)
      | (go_at_call 42; refine (sum_any A B AB.out.1 AB.out.2.1 L.out.1 _).mono ?_; rintro e w1 ⟨rfl, hb⟩; have H1 := hid (H.out.call hb).zero; clear H hb)
      | (refine store_n rfl _ _ rfl w1.heap.size (A + B) rfl rfl [] H1.out ?_; intro w2 H2; clear H1)
      | (refine load_n rfl _ rfl w1.heap.size (A + B) rfl (H2.out.mid []) ?_)
      | (refine load_n rfl _ rfl (w.heap.size + 1 + 1) M rfl (H2.out.mid [_, _]) ?_)
      | (go_at_call 53; refine (less_any (A + B) M L.out.2.2.1 L.out.2.2.2 L.out.1 L.out.2.1 false (by have := HS.out; symm; apply decide_eq_false; omega) _).mono ?_; rintro e w3 ⟨rfl, hb⟩; have H3 := hid (H2.out.call hb); clear H2 hb)
      | (refine load_n rfl _ rfl w1.heap.size (A + B) rfl (H3.out.mid []) ?_)
      | (refine load_n rfl _ rfl (w.heap.size + 1 + 1) M rfl (H3.out.mid [_, _]) ?_)
      | (go_at_call 44; refine (rest_any (A + B) M L.out.2.2.2 (by have := HS.out; omega) L.out.1 _).mono ?_; rintro e w4 ⟨rfl, hb⟩; have H4 := hid (H3.out.call hb); clear H3 hb)
      | (refine store_n rfl _ _ rfl (w.heap.size + 1 + 1 + 1) (A + B - M) rfl rfl [_] H4.out ?_; intro w5 H5))
    rw [E2.out (by have := HS.out; omega)]
    exact ret_n (p := 6) rfl rfl (H5.out.mid [_]) rfl ⟨rfl, H5.out.below⟩

set_option maxRecDepth 100000 in
set_option maxHeartbeats 1000000 in
theorem minus_any (A B M : Int) (a0 : 0 ≤ A) (b0 : 0 ≤ B) (a1 : A < M) (b1 : B < M) (m1 : M * 2 ≤ bp 8) (w : World) : Calls Tryd.prog 35 #[.agg (NV A), .agg (NV B), .agg (NV M)] w (RetN w ((A - B) % M)) := by
  have AB : Hid (0 ≤ A ∧ 0 ≤ B ∧ A < M ∧ B < M ∧ M * 2 ≤ bp 8) := hid ⟨a0, b0, a1, b1, m1⟩
  have L : Hid (A + M < bp 8 ∧ A < bp 8 ∧ B < bp 8 ∧ 0 ≤ M) := hid (by omega)
  have E1 : Hid (¬ A < B → (A - B) % M = A - B) := hid (fun h => Int.emod_eq_of_lt (by omega) (by omega))
  have E2 : Hid (A < B → (A - B) % M = A + M - B) := hid (fun h => by rw [← Int.add_emod_right, Int.emod_eq_of_lt (by omega) (by omega)]; omega)
  clear a0 b0 a1 b1 m1
  have H := four_n A B M w
  go_enter Tryd.func35, Tryd.ntmps35
  by_cases hs : A < B
  · have HS := hid hs
    clear hs
    go_wp2_with (first
      | (refine load_n rfl _ rfl w.heap.size A rfl (H.out.mid [_, _, _]) ?_)
      | (refine load_n rfl _ rfl (w.heap.size + 1) B rfl (H.out.mid [_, _]) ?_)
      | (go_at_call 53; refine (less_any A B AB.out.1 AB.out.2.1 L.out.2.1 L.out.2.2.1 true (by have := HS.out; symm; apply decide_eq_true; omega) _).mono ?_; rintro e w1 ⟨rfl, hb⟩; have H1 := hid (H.out.call hb); clear H hb)
      | (refine load_n rfl _ rfl w.heap.size A rfl (H1.out.mid [_, _, _]) ?_)
      | (refine load_n rfl _ rfl (w.heap.size + 1 + 1) M rfl (H1.out.mid [_]) ?_)
      | (go_at_call 42; refine (sum_any A M AB.out.1 L.out.2.2.2 L.out.1 _).mono ?_; rintro e w2 ⟨rfl, hb⟩; have H2 := hid (H1.out.call hb); clear H1 hb)
      | (refine store_n rfl _ _ rfl w.heap.size (A + M) rfl rfl [_, _, _] H2.out ?_; intro w3 H3; clear H2)
      | (refine load_n rfl _ rfl w.heap.size (A + M) rfl (H3.out.mid [_, _, _]) ?_)
      | (refine load_n rfl _ rfl (w.heap.size + 1) B rfl (H3.out.mid [_, _]) ?_)
      | (go_at_call 44; refine (rest_any (A + M) B AB.out.2.1 (by have := AB.out; omega) L.out.1 _).mono ?_; rintro e w4 ⟨rfl, hb⟩; have H4 := hid (H3.out.call hb); clear H3 hb)
      | (refine store_n rfl _ _ rfl (w.heap.size + 1 + 1 + 1) (A + M - B) rfl rfl [] H4.out ?_; intro w5 H5))
    rw [E2.out (by have := HS.out; omega)]
    exact ret_n (p := 6) rfl rfl (H5.out.mid []) rfl ⟨rfl, H5.out.below⟩
  · have HS := hid hs
    clear hs
    go_wp2_with (first
      | (refine load_n rfl _ rfl w.heap.size A rfl (H.out.mid [_, _, _]) ?_)
      | (refine load_n rfl _ rfl (w.heap.size + 1) B rfl (H.out.mid [_, _]) ?_)
      | (go_at_call 53; refine (less_any A B AB.out.1 AB.out.2.1 L.out.2.1 L.out.2.2.1 false (by have := HS.out; symm; apply decide_eq_false; omega) _).mono ?_; rintro e w1 ⟨rfl, hb⟩; have H1 := hid (H.out.call hb); clear H hb)
      | (refine load_n rfl _ rfl w.heap.size A rfl (H1.out.mid [_, _, _]) ?_)
      | (refine load_n rfl _ rfl (w.heap.size + 1) B rfl (H1.out.mid [_, _]) ?_)
      | (go_at_call 44; refine (rest_any A B AB.out.2.1 (by have := HS.out; omega) L.out.2.1 _).mono ?_; rintro e w4 ⟨rfl, hb⟩; have H4 := hid (H1.out.call hb); clear H1 hb)
      | (refine store_n rfl _ _ rfl (w.heap.size + 1 + 1 + 1) (A - B) rfl rfl [] H4.out ?_; intro w5 H5))
    rw [E1.out (by have := HS.out; omega)]
    exact ret_n (p := 6) rfl rfl (H5.out.mid []) rfl ⟨rfl, H5.out.below⟩

/-- Bit i of a number. -/
def nbit (V : Int) (i : Nat) : Bool := V / 2 ^ i % 2 == 1

theorem dg_bit (V : Int) (i : Nat) : dg V (i / 32) / 2 ^ (i % 32) % 2 = V / 2 ^ i % 2 := by
  unfold dg bp
  have e : (2 : Int) ^ i = 4294967296 ^ (i / 32) * 2 ^ (i % 32) := by
    rw [show (4294967296 : Int) = 2 ^ 32 by decide, ← Int.pow_mul, ← Int.pow_add]; congr 1; omega
  have hp : (0 : Int) < 4294967296 ^ (i / 32) := Int.pow_pos (by decide)
  rw [e, ← Int.ediv_ediv_of_nonneg (Int.le_of_lt hp)]
  generalize V / 4294967296 ^ (i / 32) = z
  have h : i % 32 < 32 := Nat.mod_lt _ (by decide)
  generalize i % 32 = r at *
  have : r = 0 ∨ r = 1 ∨ r = 2 ∨ r = 3 ∨ r = 4 ∨ r = 5 ∨ r = 6 ∨ r = 7 ∨ r = 8 ∨ r = 9 ∨ r = 10 ∨ r = 11 ∨ r = 12 ∨ r = 13 ∨ r = 14 ∨ r = 15 ∨ r = 16 ∨ r = 17 ∨ r = 18 ∨ r = 19 ∨ r = 20 ∨ r = 21 ∨ r = 22 ∨ r = 23 ∨ r = 24 ∨ r = 25 ∨ r = 26 ∨ r = 27 ∨ r = 28 ∨ r = 29 ∨ r = 30 ∨ r = 31 := by omega
  rcases this with rfl | rfl | rfl | rfl | rfl | rfl | rfl | rfl | rfl | rfl | rfl | rfl | rfl | rfl | rfl | rfl | rfl | rfl | rfl | rfl | rfl | rfl | rfl | rfl | rfl | rfl | rfl | rfl | rfl | rfl | rfl | rfl <;> omega

set_option maxRecDepth 100000 in
set_option maxHeartbeats 1000000 in
theorem bit_any (V : Int) (i : Nat) (hi : i < 256) (w : World) : Calls Tryd.prog 32 #[.agg (NV V), .int .i64 i] w (RetB w (nbit V i)) := by
  have S0 := hid ((Sto.start w).alloc (NV V) 43)
  have hc := dob_cell (f := dg V) (S0.out.mid []) (show i / 32 < 8 by omega)
  have hd := dg_dig V (i / 32)
  have E := hid (dg_bit V i)
  generalize hu : dg V (i / 32) = u at *
  clear hu
  go_enter Tryd.func32, Tryd.ntmps32
  go_wp2_with fail
  go_ret
  refine ⟨congrArg (fun z => Ending.returned (.bool z)) ?_, S0.out.below⟩
  show ((u / 2 ^ (i % 32)).tmod 2 == 1) = nbit V i
  rw [Int.tmod_eq_emod_of_nonneg (Int.ediv_nonneg hd.1 (Int.le_of_lt (Int.pow_pos (by decide)))), E.out]; rfl
end Go.Proofs.YtflmkgecgijncaaDoor
