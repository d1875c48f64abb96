/-
  spec.rest, spec.less.
-/
import Derived.Test.YtflmkgecgijncaaDoorS4
namespace Go.Proofs.YtflmkgecgijncaaDoor
open Go.RowKit Go.Shelf Mth

theorem rest_step {f : Nat → Int} {A B : Int} {k : Nat} {q : Int} (hd : Dig f) (q0 : 0 ≤ q) (q1 : q ≤ 1) (h : nd f k - q * bp k = nd (dg A) k - nd (dg B) k) (hr : ∀ j, k ≤ j → f j = dg A j) :
    Dig (upd f k ((4294967296 + f k - dg B k - q) % 4294967296)) ∧ 0 ≤ 1 - (4294967296 + f k - dg B k - q) / 4294967296 ∧ 1 - (4294967296 + f k - dg B k - q) / 4294967296 ≤ 1 ∧
    nd (upd f k ((4294967296 + f k - dg B k - q) % 4294967296)) (k + 1) - (1 - (4294967296 + f k - dg B k - q) / 4294967296) * bp (k + 1) = nd (dg A) (k + 1) - nd (dg B) (k + 1) ∧ ∀ j, k + 1 ≤ j → upd f k ((4294967296 + f k - dg B k - q) % 4294967296) j = dg A j := by
  have e := hr k (Nat.le_refl k)
  have d1 := dg_dig A k
  have d2 := dg_dig B k
  rw [e]
  refine ⟨hd.upd (by omega) (by omega), by omega, by omega, ?_, fun j hj => ?_⟩
  · rw [nd_upd_succ, nd_succ, nd_succ, bp_succ]
    have c := carry_step (4294967296 + dg A k - dg B k - q) 4294967296 rfl
    generalize (4294967296 + dg A k - dg B k - q) / 4294967296 = u at *
    generalize (4294967296 + dg A k - dg B k - q) % 4294967296 = v at *
    generalize dg A k = x at *
    generalize dg B k = y at *
    generalize bp k = p at *
    generalize nd f k = n0 at *
    generalize nd (dg A) k = n1 at *
    generalize nd (dg B) k = n2 at *
    clear d1 d2 e hr hd q0 q1
    have c2 : (4294967296 + x - y - q) * p = (4294967296 * u + v) * p := by rw [c]
    grind
  · unfold upd; rw [if_neg (by omega)]; exact hr j (by omega)

set_option maxRecDepth 100000 in
set_option maxHeartbeats 1000000 in
theorem rest_any (A B : Int) (b0 : 0 ≤ B) (hs : B ≤ A) (a1 : A < bp 8) (w : World) : Calls Tryd.prog 44 #[.agg (NV A), .agg (NV B)] w (RetN w (A - B)) := by
  have AB : Hid (0 ≤ B ∧ B ≤ A ∧ A < bp 8) := hid ⟨b0, hs, a1⟩
  clear b0 hs a1
  have H := three_n A B w
  go_enter Tryd.func44, Tryd.ntmps44
  go_wp2_with fail
  go_loopw [5, 6] (fun c i wr => ∃ (k : Nat) (q : Int) (f : Nat → Int), k ≤ 8 ∧ i = .int .i64 k ∧ c = .int .u64 q ∧ 0 ≤ q ∧ q ≤ 1 ∧ Hid (Dig f ∧ nd f k - q * bp k = nd (dg A) k - nd (dg B) k ∧ (∀ j, k ≤ j → f j = dg A j) ∧
      Sto w wr w.heap.size [(w.heap.size + 1 + 1, nob 0), (w.heap.size + 1, nob B), (w.heap.size, dob 43 8 f)])) (fun _ i _ => 8 - (intOf i).toNat)
  case atStart => exact ⟨0, 0, dg A, by omega, rfl, rfl, by omega, by omega, hid ⟨dg_dig A, by show (0 : Int) - 0 * bp 0 = 0 - 0; omega, fun _ _ => rfl, H.out⟩⟩
  case round =>
    obtain ⟨k, q, f, hk, rfl, rfl, q0, q1, I⟩ := hrel
    clear H
    by_cases hlt : k < 8
    · obtain ⟨hd, hn, hr, hS⟩ := I.out
      obtain ⟨s1, s2, s3, s4, s5⟩ := rest_step hd q0 q1 hn hr
      have ca := dob_cell (hS.mid [_, _]) hlt
      have cb := dob_cell (nob_dob B ▸ hS.mid [_]) hlt
      have fa := dob_frozen (hS.mid [_, _]) k
      have da := hd k
      have db := dg_dig B k
      have J := hid (And.intro s1 (And.intro s4 (And.intro s5 hS)))
      generalize hu : f k = u at *
      generalize hv : dg B k = v at *
      have HU := hid hu
      have HV := hid hv
      clear hu hv s1 s4 s5 hS hd hn hr I
      have w1 : IntKind.u64.wrap (4294967296 + u) = 4294967296 + u := by rw [IntKind.wrap_u64]; omega
      have w2 : IntKind.u64.wrap (4294967296 + u - v) = 4294967296 + u - v := by rw [IntKind.wrap_u64]; omega
      have w3 : IntKind.u64.wrap (4294967296 + u - v - q) = 4294967296 + u - v - q := by rw [IntKind.wrap_u64]; omega
      go_wp2_with fail
      go_quiet (fail)
      go_wp2_with fail
      go_roundw
      case rel => exact ⟨k + 1, _, _, by omega, by go_num, rfl, s2, s3, hid ⟨J.out.1, J.out.2.1, J.out.2.2.1, (J.out.2.2.2.drewN _).cell [_, _] k _⟩⟩
      case measure => simp [intOf]; omega
    · obtain rfl : k = 8 := by omega
      have E : dob 43 8 f = nob (A - B) := by
        obtain ⟨hd, hn, hr, hS⟩ := I.out
        obtain ⟨b0, hs, a1⟩ := AB.out
        refine dob_num hd ?_
        rw [nd8 (by omega) a1, nd8 b0 (by omega)] at hn
        have := nd_lt hd 8
        rw [bp_eight] at *
        omega
      have HS := hid (E ▸ I.out.2.2.2)
      clear I E
      go_wp2_with (first | (refine load_n rfl _ rfl w.heap.size (A - B) rfl (HS.out.mid [_, _]) ?_) | (refine store_n rfl _ _ rfl (w.heap.size + 1 + 1) (A - B) rfl rfl [] HS.out ?_; intro w1 H1))
      exact ret_n (p := 4) rfl rfl (H1.out.mid []) rfl ⟨rfl, H1.out.below⟩

/-- Two new blocks: two numbers. -/
theorem two_n (A B : Int) (w : World) : Hid (Sto w ((w.alloc (.cells (NV A) 43)).alloc (.cells (NV B) 43)) w.heap.size [(w.heap.size + 1, nob B), (w.heap.size, nob A)]) := by
  have S0 := ((Sto.start w).alloc (NV A) 43).alloc (NV B) 43
  have e1 : (w.alloc (.cells (NV A) 43)).heap.size = w.heap.size + 1 := by simp
  rw [e1] at S0
  exact hid S0

theorem div_bp (A : Int) (k : Nat) : A / bp k = 4294967296 * (A / bp (k + 1)) + dg A k := by
  unfold dg
  rw [bp_succ, Int.mul_comm 4294967296 (bp k), ← Int.ediv_ediv_of_nonneg (Int.le_of_lt (bp_pos k))]
  generalize A / bp k = z
  omega
theorem Int.lt_or_ge' (a b : Int) : a < b ∨ b ≤ a := by omega
theorem lt_of_div {A B : Int} {k : Nat} (h : A / bp k < B / bp k) : A < B := by
  rcases Int.lt_or_ge' A B with r | r
  · exact r
  · exact absurd (Int.ediv_le_ediv (bp_pos k) r) (by omega)

theorem less_step {A B : Int} {k : Nat} (h : A / bp (k + 1) = B / bp (k + 1)) (he : dg A k ≠ dg B k) : decide (A < B) = decide (dg A k < dg B k) := by
  have e1 := div_bp A k
  have e2 := div_bp B k
  rw [h] at e1
  rcases Int.lt_or_ge' (dg A k) (dg B k) with r | r
  · have := lt_of_div (A := A) (B := B) (k := k) (by omega)
    simp [this, r]
  · have := lt_of_div (A := B) (B := A) (k := k) (by omega)
    have n1 : ¬ A < B := by omega
    have n2 : ¬ dg A k < dg B k := by omega
    simp [n1, n2]

def RetB (w : World) (r : Bool) (e : Ending) (w' : World) : Prop := e = .returned (.bool r) ∧ Below w.heap.size w w'

set_option maxRecDepth 100000 in
set_option maxHeartbeats 1000000 in
theorem less_any (A B : Int) (a0 : 0 ≤ A) (b0 : 0 ≤ B) (a1 : A < bp 8) (b1 : B < bp 8) (r : Bool) (hr : r = decide (A < B)) (w : World) : Calls Tryd.prog 53 #[.agg (NV A), .agg (NV B)] w (RetB w r) := by
  have AB : Hid (0 ≤ A ∧ 0 ≤ B ∧ A < bp 8 ∧ B < bp 8 ∧ r = decide (A < B)) := hid ⟨a0, b0, a1, b1, hr⟩
  clear a0 b0 a1 b1 hr
  have H := two_n A B w
  go_enter Tryd.func53, Tryd.ntmps53
  go_wp2_with fail
  go_loopw [5] (fun i wr => ∃ k : Nat, k ≤ 8 ∧ i = .int .i64 ((k : Int) - 1) ∧ Hid (A / bp k = B / bp k ∧ Sto w wr w.heap.size [(w.heap.size + 1, nob B), (w.heap.size, nob A)])) (fun i _ => (intOf i + 1).toNat)
  case atStart => exact ⟨8, by omega, rfl, hid ⟨by obtain ⟨a0, b0, a1, b1, _⟩ := AB.out; rw [Int.ediv_eq_zero_of_lt a0 a1, Int.ediv_eq_zero_of_lt b0 b1], H.out⟩⟩
  case round =>
    obtain ⟨k, hk, rfl, I⟩ := hrel
    clear H
    cases k with
    | zero =>
      have E : r = false := by
        have h := I.out.1
        rw [bp_zero, Int.ediv_one, Int.ediv_one] at h
        rw [AB.out.2.2.2.2, h]; simp
      subst E
      go_wp2_with fail
      go_ret
      exact ⟨rfl, I.out.2.below⟩
    | succ j =>
      have e0 : (((j + 1 : Nat) : Int) - 1) = j := by omega
      rw [e0]
      have ca := dob_cell (nob_dob A ▸ I.out.2.mid [_]) (show j < 8 by omega)
      have cb := dob_cell (nob_dob B ▸ I.out.2.mid []) (show j < 8 by omega)
      have da := dg_dig A j
      have db := dg_dig B j
      have LS := hid (fun he => less_step (k := j) I.out.1 he)
      generalize hu : dg A j = u at *
      generalize hv : dg B j = v at *
      have HU := hid hu
      have HV := hid hv
      clear hu hv e0
      by_cases he : u = v
      · subst he
        go_wp2_with fail
        go_quiet (fail)
        go_wp2_with fail
        go_roundw
        case rel => exact ⟨j, by omega, rfl, hid ⟨by rw [div_bp A j, div_bp B j, I.out.1, HU.out, HV.out], I.out.2.drewN _⟩⟩
        case measure => simp [intOf]
      · have he' : (u != v) = true := by simpa using he
        have E := hid (AB.out.2.2.2.2.trans (LS.out he))
        go_wp2_with fail
        go_quiet (fail)
        go_wp2_with fail
        go_quiet (fail)
        go_wp2_with fail
        go_ret
        exact ⟨congrArg (fun z => Ending.returned (.bool z)) E.out.symm, ((I.out.2.drewN _).drewN _).below⟩
end Go.Proofs.YtflmkgecgijncaaDoor
