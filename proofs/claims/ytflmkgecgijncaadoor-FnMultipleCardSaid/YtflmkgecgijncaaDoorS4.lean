/-
  spec.small, spec.prime, spec.sum, spec.rest, spec.less.
-/
import Derived.Test.YtflmkgecgijncaaDoorS3
import Derived.IntWalk
namespace Go.Proofs.YtflmkgecgijncaaDoor
open Go.RowKit Go.Shelf Mth

theorem build_n {ops : Array Oper} {rest : List Oper} {o : Oper} {a : Act} {w : World} {Q : Exit → Act → World → Prop} (hgd : o.guard = none) (parts : Array (Nat × Operand)) (ho : o.op = .build 43 parts)
    (V : Int) (l : List (Nat × Value)) (hl : (parts.map fun (i, x) => (i, a.eval x)).toList = l) (hb : Tryd.prog.built 43 l = some (NV V))
    (h : wpList Tryd.prog ops Q rest (a.put o.dst (.agg (NV V))) w) : wpList Tryd.prog ops Q (o :: rest) a w :=
  wpList_build hgd 43 parts ho (by rw [hl, hb]; rfl) (by rw [hl, hb]; exact h)

theorem built_small (n : Int) (h0 : 0 ≤ n) (h1 : n < 4294967296) : Tryd.prog.built 43 [(0, .int .u64 n)] = some (NV n) := by
  have e : Tryd.prog.built 43 [(0, .int .u64 n)] = some #[.int .u64 n, .int .u64 0, .int .u64 0, .int .u64 0, .int .u64 0, .int .u64 0, .int .u64 0, .int .u64 0] := by kernel_rfl
  rw [e]
  have hd : Dig (upd (fun _ => 0) 0 n) := by intro j; unfold upd; dsimp only; split <;> omega
  have hv : nd (upd (fun _ => 0) 0 n) 8 = n := by
    have z : ∀ k, nd (upd (fun _ => 0) 0 n) (k + 1) = n := by
      intro k
      induction k with
      | zero => rw [nd_succ, nd_zero, bp_zero]; unfold upd; simp
      | succ k ih => rw [nd_succ, ih]; unfold upd; simp
    exact z 7
  unfold NV
  rw [← nvals_dg hd hv]; rfl

set_option maxHeartbeats 400000 in
theorem small_any (n : Int) (h0 : 0 ≤ n) (h1 : n < 4294967296) (w : World) : Calls Tryd.prog 31 #[.int .u64 n] w (RetN w n) := by
  have B : Hid (Tryd.prog.built 43 [(0, .int .u64 n)] = some (NV n)) := hid (built_small n h0 h1)
  clear h0 h1
  have S0 := (Sto.start w).alloc (List.replicate 8 (Value.int .u64 0)).toArray 43
  rw [dob_new] at S0
  have H : Hid (Sto w (w.alloc (.cells (List.replicate 8 (Value.int .u64 0)).toArray 43)) w.heap.size [(w.heap.size, nob 0)]) := hid S0
  clear S0
  go_enter Tryd.func31, Tryd.ntmps31
  go_wp2_with (first | (refine build_n rfl _ rfl n _ (by kernel_rfl) B.out ?_) | (refine store_n rfl _ _ rfl w.heap.size n rfl rfl [] H.out ?_; intro w1 H1))
  exact ret_n (p := 2) rfl rfl (H1.out.mid []) rfl ⟨rfl, H1.out.below⟩

theorem built_prime : Tryd.prog.built 43 [(0, .int .u64 4294967277), (1, .int .u64 4294967295), (2, .int .u64 4294967295), (3, .int .u64 4294967295), (4, .int .u64 4294967295), (5, .int .u64 4294967295), (6, .int .u64 4294967295), (7, .int .u64 2147483647)] = some (NV pI) := by kernel_rfl

set_option maxHeartbeats 400000 in
theorem prime_any (w : World) : Calls Tryd.prog 30 #[] w (RetN w pI) := by
  have S0 := (Sto.start w).alloc (List.replicate 8 (Value.int .u64 0)).toArray 43
  rw [dob_new] at S0
  have H : Hid (Sto w (w.alloc (.cells (List.replicate 8 (Value.int .u64 0)).toArray 43)) w.heap.size [(w.heap.size, nob 0)]) := hid S0
  clear S0
  go_enter Tryd.func30, Tryd.ntmps30
  go_wp2_with (first | (refine build_n rfl _ rfl pI _ (by kernel_rfl) built_prime ?_) | (refine store_n rfl _ _ rfl w.heap.size pI rfl rfl [] H.out ?_; intro w1 H1))
  exact ret_n (p := 0) rfl rfl (H1.out.mid []) rfl ⟨rfl, H1.out.below⟩

/-- Three new blocks: two numbers and a result. -/
theorem three_n (A B : Int) (w : World) : Hid (Sto w (((w.alloc (.cells (NV A) 43)).alloc (.cells (NV B) 43)).alloc (.cells (List.replicate 8 (Value.int .u64 0)).toArray 43)) w.heap.size [(w.heap.size + 1 + 1, nob 0), (w.heap.size + 1, nob B), (w.heap.size, nob A)]) := by
  have S0 := (((Sto.start w).alloc (NV A) 43).alloc (NV B) 43).alloc (List.replicate 8 (Value.int .u64 0)).toArray 43
  rw [dob_new] at S0
  have e1 : (w.alloc (.cells (NV A) 43)).heap.size = w.heap.size + 1 := by simp
  have e2 : ((w.alloc (.cells (NV A) 43)).alloc (.cells (NV B) 43)).heap.size = w.heap.size + 1 + 1 := by simp
  rw [e1, e2] at S0
  exact hid S0

theorem nob_dob (A : Int) : nob A = dob 43 8 (dg A) := rfl

/-- A round of a sum. -/
theorem sum_step {f : Nat → Int} {A B : Int} {k : Nat} {q : Int} (hd : Dig f) (q0 : 0 ≤ q) (q1 : q ≤ 1) (h : nd f k + q * bp k = nd (dg A) k + nd (dg B) k) (hr : ∀ j, k ≤ j → f j = dg A j) :
    Dig (upd f k ((q + f k + dg B k) % 4294967296)) ∧ 0 ≤ (q + f k + dg B k) / 4294967296 ∧ (q + f k + dg B k) / 4294967296 ≤ 1 ∧
    nd (upd f k ((q + f k + dg B k) % 4294967296)) (k + 1) + (q + f k + dg B k) / 4294967296 * bp (k + 1) = nd (dg A) (k + 1) + nd (dg B) (k + 1) ∧ ∀ j, k + 1 ≤ j → upd f k ((q + f k + dg B k) % 4294967296) j = dg A j := by
  have e := hr k (Nat.le_refl k)
  have d1 := dg_dig A k
  have d2 := dg_dig B k
  rw [e]
  refine ⟨hd.upd (by omega) (by omega), by omega, by omega, ?_, fun j hj => ?_⟩
  · rw [nd_upd_succ, nd_succ, nd_succ, bp_succ]
    have c := carry_step (q + dg A k + dg B k) 4294967296 rfl
    generalize (q + dg A k + dg B k) / 4294967296 = u at *
    generalize (q + dg A k + dg B k) % 4294967296 = v at *
    generalize dg A k = x at *
    generalize dg B k = y at *
    generalize bp k = p at *
    generalize nd f k = n0 at *
    generalize nd (dg A) k = n1 at *
    generalize nd (dg B) k = n2 at *
    clear d1 d2 e hr hd q0 q1
    have c2 : (q + x + y) * p = (4294967296 * u + v) * p := by rw [c]
    grind
  · unfold upd; rw [if_neg (by omega)]; exact hr j (by omega)

theorem nd8 {A : Int} (h0 : 0 ≤ A) (h1 : A < bp 8) : nd (dg A) 8 = A := by rw [nd_dg, Int.emod_eq_of_lt h0 h1]

set_option maxRecDepth 100000 in
set_option maxHeartbeats 1000000 in
theorem sum_any (A B : Int) (a0 : 0 ≤ A) (b0 : 0 ≤ B) (hs : A + B < bp 8) (w : World) : Calls Tryd.prog 42 #[.agg (NV A), .agg (NV B)] w (RetN w (A + B)) := by
  have AB : Hid (0 ≤ A ∧ 0 ≤ B ∧ A + B < bp 8) := hid ⟨a0, b0, hs⟩
  clear a0 b0 hs
  have H := three_n A B w
  go_enter Tryd.func42, Tryd.ntmps42
  go_wp2_with fail
  go_loopw [5, 6] (fun c i wr => ∃ (k : Nat) (q : Int) (f : Nat → Int), k ≤ 8 ∧ i = .int .i64 k ∧ c = .int .u64 q ∧ 0 ≤ q ∧ q ≤ 1 ∧ Hid (Dig f ∧ nd f k + q * bp k = nd (dg A) k + nd (dg B) k ∧ (∀ j, k ≤ j → f j = dg A j) ∧
      Sto w wr w.heap.size [(w.heap.size + 1 + 1, nob 0), (w.heap.size + 1, nob B), (w.heap.size, dob 43 8 f)])) (fun _ i _ => 8 - (intOf i).toNat)
  case atStart => exact ⟨0, 0, dg A, by omega, rfl, rfl, by omega, by omega, hid ⟨dg_dig A, by show (0 : Int) + 0 * bp 0 = 0 + 0; omega, fun _ _ => rfl, H.out⟩⟩
  case round =>
    obtain ⟨k, q, f, hk, rfl, rfl, q0, q1, I⟩ := hrel
    clear H
    by_cases hlt : k < 8
    · obtain ⟨hd, hn, hr, hS⟩ := I.out
      obtain ⟨s1, s2, s3, s4, s5⟩ := sum_step hd q0 q1 hn hr
      have ca := dob_cell (hS.mid [_, _]) hlt
      have cb := dob_cell (nob_dob B ▸ hS.mid [_]) hlt
      have fa := dob_frozen (hS.mid [_, _]) k
      have da := hd k
      have db := dg_dig B k
      have J := hid (And.intro s1 (And.intro s4 (And.intro s5 hS)))
      generalize hu : f k = u at *
      generalize hv : dg B k = v at *
      have HU := hid hu
      have HV := hid hv
      clear hu hv s1 s4 s5 hS hd hn hr I
      have w1 : IntKind.u64.wrap (q + u) = q + u := by rw [IntKind.wrap_u64]; omega
      have w2 : IntKind.u64.wrap (q + u + v) = q + u + v := by rw [IntKind.wrap_u64]; omega
      go_wp2_with fail
      go_quiet (fail)
      go_wp2_with fail
      go_roundw
      case rel => exact ⟨k + 1, _, _, by omega, by go_num, rfl, s2, s3, hid ⟨J.out.1, J.out.2.1, J.out.2.2.1, (J.out.2.2.2.drewN _).cell [_, _] k _⟩⟩
      case measure => simp [intOf]; omega
    · obtain rfl : k = 8 := by omega
      have E : dob 43 8 f = nob (A + B) := by
        obtain ⟨hd, hn, hr, hS⟩ := I.out
        obtain ⟨a0, b0, hs⟩ := AB.out
        refine dob_num hd ?_
        rw [nd8 a0 (by omega), nd8 b0 (by omega)] at hn
        have := nd_lt hd 8
        rw [bp_eight] at *
        omega
      have HS := hid (E ▸ I.out.2.2.2)
      clear I E
      go_wp2_with (first | (refine load_n rfl _ rfl w.heap.size (A + B) rfl (HS.out.mid [_, _]) ?_) | (refine store_n rfl _ _ rfl (w.heap.size + 1 + 1) (A + B) rfl rfl [] HS.out ?_; intro w1 H1))
      exact ret_n (p := 4) rfl rfl (H1.out.mid []) rfl ⟨rfl, H1.out.below⟩
end Go.Proofs.YtflmkgecgijncaaDoor
