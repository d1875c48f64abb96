/-
  spec.folded.
-/
import Derived.Test.YtflmkgecgijncaaDoorS7
import Derived.Deep.LoopGhost
namespace Go.Proofs.YtflmkgecgijncaaDoor
open Go.RowKit Go.Shelf Mth

/-- Two new blocks: a number and a result. -/
theorem pair_n (A : Int) (w : World) : Hid (Sto w ((w.alloc (.cells (NV A) 43)).alloc (.cells (List.replicate 8 (Value.int .u64 0)).toArray 43)) w.heap.size [(w.heap.size + 1, nob 0), (w.heap.size, nob A)]) := by
  have S0 := ((Sto.start w).alloc (NV A) 43).zero
  have e1 : (w.alloc (.cells (NV A) 43)).heap.size = w.heap.size + 1 := by simp
  rw [e1] at S0
  exact hid S0

theorem fold_step {f : Nat → Int} {A C : Int} {k : Nat} {q : Int} (hd : Dig f) (q0 : 0 ≤ q) (q1 : q ≤ 4294967295) (h : nd f k + q * bp k = nd (dg A) k + C) (hr : ∀ j, k ≤ j → f j = dg A j) :
    Dig (upd f k ((q + f k) % 4294967296)) ∧ 0 ≤ (q + f k) / 4294967296 ∧ (q + f k) / 4294967296 ≤ 4294967295 ∧
    nd (upd f k ((q + f k) % 4294967296)) (k + 1) + (q + f k) / 4294967296 * bp (k + 1) = nd (dg A) (k + 1) + C ∧ ∀ j, k + 1 ≤ j → upd f k ((q + f k) % 4294967296) j = dg A j := by
  have e := hr k (Nat.le_refl k)
  have d1 := dg_dig A k
  rw [e]
  refine ⟨hd.upd (by omega) (by omega), by omega, by omega, ?_, fun j hj => ?_⟩
  · rw [nd_upd_succ, nd_succ, bp_succ]
    have c := carry_step (q + dg A k) 4294967296 rfl
    generalize (q + dg A k) / 4294967296 = u at *
    generalize (q + dg A k) % 4294967296 = v at *
    generalize dg A k = x at *
    generalize bp k = p at *
    generalize nd f k = n0 at *
    generalize nd (dg A) k = n1 at *
    clear d1 e hr hd q0 q1
    have c2 : (q + x) * p = (4294967296 * u + v) * p := by rw [c]
    grind
  · unfold upd; rw [if_neg (by omega)]; exact hr j (by omega)

theorem pI_eq : pI = 57896044618658097711785492504343953926634992332820282019728792003956564819949 := rfl

set_option maxRecDepth 100000 in
set_option maxHeartbeats 1000000 in
theorem folded_gen (A m : Int) (a0 : 0 ≤ A) (a1 : A < bp 8) (m0 : 0 ≤ m) (m1 : m ≤ 1000)
    (hrec : A + 38 * m < bp 8 ∨ (bp 8 ≤ A + 38 * m ∧ ∀ w', Calls Tryd.prog 52 #[.agg (NV (A + 38 * m - bp 8)), .int .u64 1] w' (RetN w' ((A + 38 * m) % pI)))) (w : World) : Calls Tryd.prog 52 #[.agg (NV A), .int .u64 m] w (RetN w ((A + 38 * m) % pI)) := by
  have HR := hid hrec
  have AB := hid (And.intro a0 a1)
  clear hrec a0 a1
  have H := pair_n A w
  go_enter Tryd.func52, Tryd.ntmps52
  go_wp2_with fail
  go_loopw [5, 6] (fun c i wr => ∃ (k : Nat) (q : Int) (f : Nat → Int), k ≤ 8 ∧ i = .int .i64 k ∧ c = .int .u64 q ∧ 0 ≤ q ∧ q ≤ 4294967295 ∧ Hid (Dig f ∧ nd f k + q * bp k = nd (dg A) k + 38 * m ∧ (∀ j, k ≤ j → f j = dg A j) ∧
      Sto w wr w.heap.size [(w.heap.size + 1, nob 0), (w.heap.size, dob 43 8 f)])) (fun _ i _ => 8 - (intOf i).toNat)
  case atStart => exact ⟨0, 38 * m, dg A, by omega, rfl, rfl, by omega, by omega, hid ⟨dg_dig A, by show (0 : Int) + 38 * m * bp 0 = 0 + 38 * m; rw [bp_zero]; omega, fun _ _ => rfl, H.out⟩⟩
  case round =>
    obtain ⟨k, q, f, hk, rfl, rfl, q0, q1, I⟩ := hrel
    clear H
    by_cases hlt : k < 8
    · obtain ⟨hd, hn, hr, hS⟩ := I.out
      obtain ⟨s1, s2, s3, s4, s5⟩ := fold_step hd q0 q1 hn hr
      have ca := dob_cell (hS.mid [_]) hlt
      have fa := dob_frozen (hS.mid [_]) k
      have da := hd k
      have J := hid (And.intro s1 (And.intro s4 (And.intro s5 hS)))
      generalize hu : f k = u at *
      have HU := hid hu
      clear hu s1 s4 s5 hS hd hn hr I
      go_wp2_with fail
      go_roundw
      case rel => exact ⟨k + 1, _, _, by omega, by go_num, rfl, s2, s3, hid ⟨J.out.1, J.out.2.1, J.out.2.2.1, J.out.2.2.2.cell [_] k _⟩⟩
      case measure => simp [intOf]; omega
    · obtain rfl : k = 8 := by omega
      have E : nd f 8 + q * bp 8 = A + 38 * m ∧ 0 ≤ nd f 8 ∧ nd f 8 < bp 8 := by
        obtain ⟨hd, hn, hr, hS⟩ := I.out
        rw [nd8 AB.out.1 AB.out.2] at hn
        exact ⟨hn, nd_lt hd 8⟩
      rcases HR.out with hs | ⟨hs, hc⟩
      · have E2 : q = 0 ∧ nd f 8 = A + 38 * m := by
          have := AB.out
          have := AB.out
          rw [bp_eight] at *
          omega
        obtain ⟨rfl, E3⟩ := E2
        have Z := hid (And.intro (show 0 ≤ A + 38 * m ∧ A + 38 * m < bp 8 by omega) (dob_num I.out.1 E3 ▸ I.out.2.2.2))
        clear I E E3 hs HR
        go_wp2_with fail
        go_loopg [] 2 (fun k wr => ∃ V, Hid (0 ≤ V ∧ V < bp 8 ∧ V < pI * (k + 1) ∧ V % pI = (A + 38 * m) % pI ∧ Sto w wr w.heap.size [(w.heap.size + 1, nob 0), (w.heap.size, nob V)]))
        case atStart => exact ⟨A + 38 * m, hid ⟨Z.out.1.1, Z.out.1.2, by have := Z.out.1.2; rw [bp_eight] at this; unfold pI; omega, rfl, Z.out.2⟩⟩
        case round =>
          obtain ⟨V, I⟩ := hrel
          clear Z
          have hp : Hid (0 ≤ pI ∧ pI < bp 8) := hid (by rw [bp_eight]; unfold pI; omega)
          by_cases hlt : V < pI
          · have D := hid (decide_eq_true hlt)
            have E := hid (Int.emod_eq_of_lt I.out.1 hlt)
            clear hlt
            go_wp2_with fail
            refine region_free [0, 1, 2, 3] [] [0, 1, 2, 3] [.agg (NV (V)), .agg (NV pI), .bool true, .bool false] #[true, true, true, true] 0 (fun act _ => ((((act.put (some 29) (.agg (NV (V)))).put (some 30) (.agg (NV pI))).put (some 31) (.bool true)).put (some 32) (.bool false))) (by kernel_rfl) (by kernel_rfl) (by kernel_rfl) (by kernel_rfl) (by kernel_rfl) (fun β => by kernel_rfl) ⟨fun β w1 hb => givesAt_of ({ dst := some 29, op := Op.load 43 (Operand.tmp 2), type := 43, pos := "num.go:90", after := #[], guard := none }) (by kernel_rfl) (gives_load43 (.tmp 2) rfl (w.heap.size) (V) (by kernel_rfl) (kept_obj (I.out.2.2.2.2.mid [_]) hb)), fun β w1 hb => givesAt_of ({ dst := some 30, op := Op.call { callee := Callee.value (Operand.func 30), args := #[], argTypes := #[] }, type := 43, pos := "num.go:90", after := #[], guard := none }) (by kernel_rfl) (gives_call rfl ent30 #[] (by kernel_rfl) (prime_any _)), fun β w1 hb => givesAt_of ({ dst := some 31, op := Op.call { callee := Callee.value (Operand.func 53), args := #[Operand.tmp 29, Operand.tmp 30], argTypes := #[43, 43] }, type := 4, pos := "num.go:90", after := #[{ on := 0, ground := Ground.data }, { on := 1, ground := Ground.data }, { on := 1, ground := Ground.chain }], guard := none }) (by kernel_rfl) (gives_call rfl ent53 #[.agg (NV (V)), .agg (NV pI)] (by kernel_rfl) (less_any (V) pI I.out.1 hp.out.1 I.out.2.1 hp.out.2 true D.out.symm _)), fun β w1 hb => givesAt_of ({ dst := some 32, op := Op.unOp UnOp.not 4 (Operand.tmp 31), type := 4, pos := "num.go:90", after := #[{ on := 2, ground := Ground.data }], guard := none }) (by kernel_rfl) (gives_val rfl), trivial⟩ (fun β W hB hL => ?_)
            refine wpAnyH_end (by kernel_rfl) ?_
            simp only [Act.put, List.setIfInBounds_toArray, List.set_cons_zero, List.set_cons_succ]
            have HS := hid ((E.out.symm.trans I.out.2.2.2.1) ▸ (I.out.2.2.2.2.call hB))
            clear I hB hL
            go_wp2_with (first | (refine load_n rfl _ rfl w.heap.size ((A + 38 * m) % pI) rfl (HS.out.mid [_]) ?_) | (refine store_n rfl _ _ rfl (w.heap.size + 1) ((A + 38 * m) % pI) rfl rfl [] HS.out ?_; intro w1 H1))
            exact ret_n (p := 4) rfl rfl (H1.out.mid []) rfl ⟨rfl, H1.out.below⟩
          · have D := hid (decide_eq_false hlt)
            have hge := hid (show pI ≤ V by omega)
            clear hlt
            go_wp2_with fail
            refine region_free [0, 1, 2, 3] [] [0, 1, 2, 3] [.agg (NV (V)), .agg (NV pI), .bool false, .bool true] #[true, true, true, true] 0 (fun act _ => ((((act.put (some 29) (.agg (NV (V)))).put (some 30) (.agg (NV pI))).put (some 31) (.bool false)).put (some 32) (.bool true))) (by kernel_rfl) (by kernel_rfl) (by kernel_rfl) (by kernel_rfl) (by kernel_rfl) (fun β => by kernel_rfl) ⟨fun β w1 hb => givesAt_of ({ dst := some 29, op := Op.load 43 (Operand.tmp 2), type := 43, pos := "num.go:90", after := #[], guard := none }) (by kernel_rfl) (gives_load43 (.tmp 2) rfl (w.heap.size) (V) (by kernel_rfl) (kept_obj (I.out.2.2.2.2.mid [_]) hb)), fun β w1 hb => givesAt_of ({ dst := some 30, op := Op.call { callee := Callee.value (Operand.func 30), args := #[], argTypes := #[] }, type := 43, pos := "num.go:90", after := #[], guard := none }) (by kernel_rfl) (gives_call rfl ent30 #[] (by kernel_rfl) (prime_any _)), fun β w1 hb => givesAt_of ({ dst := some 31, op := Op.call { callee := Callee.value (Operand.func 53), args := #[Operand.tmp 29, Operand.tmp 30], argTypes := #[43, 43] }, type := 4, pos := "num.go:90", after := #[{ on := 0, ground := Ground.data }, { on := 1, ground := Ground.data }, { on := 1, ground := Ground.chain }], guard := none }) (by kernel_rfl) (gives_call rfl ent53 #[.agg (NV (V)), .agg (NV pI)] (by kernel_rfl) (less_any (V) pI I.out.1 hp.out.1 I.out.2.1 hp.out.2 false D.out.symm _)), fun β w1 hb => givesAt_of ({ dst := some 32, op := Op.unOp UnOp.not 4 (Operand.tmp 31), type := 4, pos := "num.go:90", after := #[{ on := 2, ground := Ground.data }], guard := none }) (by kernel_rfl) (gives_val rfl), trivial⟩ (fun β W hB hL => ?_)
            refine wpAnyH_end (by kernel_rfl) ?_
            simp only [Act.put, List.setIfInBounds_toArray, List.set_cons_zero, List.set_cons_succ]
            have HS := hid (I.out.2.2.2.2.call hB)
            clear hB hL
            go_wp2_with fail
            refine region_free [0, 1, 2] [] [0, 1, 2] [.agg (NV (V)), .agg (NV pI), .agg (NV (V - pI)), undef] #[true, true, true, false] 1 (fun act _ => (((act.put (some 33) (.agg (NV (V)))).put (some 34) (.agg (NV pI))).put (some 35) (.agg (NV (V - pI))))) (by kernel_rfl) (by kernel_rfl) (by kernel_rfl) (by kernel_rfl) (by kernel_rfl) (fun β => by kernel_rfl) ⟨fun β w1 hb => givesAt_of ({ dst := some 33, op := Op.load 43 (Operand.tmp 2), type := 43, pos := "num.go:91", after := #[], guard := none }) (by kernel_rfl) (gives_load43 (.tmp 2) rfl (w.heap.size) (V) (by kernel_rfl) (kept_obj (HS.out.mid [_]) hb)), fun β w1 hb => givesAt_of ({ dst := some 34, op := Op.call { callee := Callee.value (Operand.func 30), args := #[], argTypes := #[] }, type := 43, pos := "num.go:91", after := #[], guard := none }) (by kernel_rfl) (gives_call rfl ent30 #[] (by kernel_rfl) (prime_any _)), fun β w1 hb => givesAt_of ({ dst := some 35, op := Op.call { callee := Callee.value (Operand.func 44), args := #[Operand.tmp 33, Operand.tmp 34], argTypes := #[43, 43] }, type := 43, pos := "num.go:91", after := #[{ on := 0, ground := Ground.data }, { on := 1, ground := Ground.data }, { on := 1, ground := Ground.chain }], guard := none }) (by kernel_rfl) (gives_call rfl ent44 #[.agg (NV (V)), .agg (NV pI)] (by kernel_rfl) (rest_any (V) pI hp.out.1 hge.out I.out.2.1 _)), trivial⟩ (fun β W hB hL => ?_)
            simp only [Act.put, List.setIfInBounds_toArray, List.set_cons_zero, List.set_cons_succ]
            refine wpAnyH_store (i := 3) (by kernel_rfl) ({ dst := none, op := Op.store 43 (Operand.tmp 2) (Operand.tmp 35), type := 0, pos := "num.go:91", after := #[{ on := 2, ground := Ground.data }, { on := 2, ground := Ground.chain }, { on := 0, ground := Ground.phase }, { on := 1, ground := Ground.phase }, { on := 2, ground := Ground.phase }], guard := none }) (by kernel_rfl) rfl rfl (.tmp 2) (.tmp 35) rfl (w.heap.size) (V - pI) (by kernel_rfl) (by kernel_rfl) [_] (HS.out.call hB) (fun W2 H2 => ?_)
            refine wpAnyH_end (by kernel_rfl) ?_
            have H2 := hid H2
            clear HS hB hL
            go_wp2_with fail
            have g1 : 1 ≤ gk := by
              obtain ⟨v0, v1, v2, v3, _⟩ := I.out
              have hg := hge.out
              rcases Nat.eq_zero_or_pos gk with r | r
              · subst r; unfold pI at *; omega
              · exact r
            go_roundg (gk - 1)
            case rel =>
              obtain ⟨v0, v1, v2, v3, _⟩ := I.out
              have hg := hge.out
              have p0 := hp.out.1
              have e : ((gk - 1 : Nat) : Int) = (gk : Int) - 1 := by omega
              exact ⟨V - pI, hid ⟨by omega, by omega, by rw [e]; unfold pI at *; omega, by rw [Int.sub_emod_right]; exact v3, H2.out⟩⟩
            case measure => omega
      · have E2 : q = 1 ∧ nd f 8 = A + 38 * m - bp 8 := by
          have := AB.out
          have := AB.out
          rw [bp_eight] at *
          omega
        obtain ⟨rfl, E3⟩ := E2
        have Z := hid (dob_num I.out.1 E3 ▸ I.out.2.2.2)
        have HC := hid hc
        clear I E E3 hs hc HR
        go_wp2_with (first
          | (refine load_n rfl _ rfl w.heap.size (A + 38 * m - bp 8) rfl (Z.out.mid [_]) ?_)
          | (go_at_call 52; refine (HC.out _).mono ?_; rintro e w1 ⟨rfl, hb⟩; have H1 := hid (Z.out.call hb); clear Z hb)
          | (refine store_n rfl _ _ rfl (w.heap.size + 1) ((A + 38 * m) % pI) rfl rfl [] H1.out ?_; intro w2 H2))
        exact ret_n (p := 4) rfl rfl (H2.out.mid []) rfl ⟨rfl, H2.out.below⟩

theorem folded_small (A m : Int) (a0 : 0 ≤ A) (a1 : A < bp 8) (m0 : 0 ≤ m) (m1 : m ≤ 1000) (h : A + 38 * m < bp 8) (w : World) : Calls Tryd.prog 52 #[.agg (NV A), .int .u64 m] w (RetN w ((A + 38 * m) % pI)) :=
  folded_gen A m a0 a1 m0 m1 (Or.inl h) w

/-- A number of eight digits, and so many times 2^256, modulo the prime. -/
theorem folded_any (A m : Int) (a0 : 0 ≤ A) (a1 : A < bp 8) (m0 : 0 ≤ m) (m1 : m ≤ 1000) (w : World) : Calls Tryd.prog 52 #[.agg (NV A), .int .u64 m] w (RetN w ((A + m * bp 8) % pI)) := by
  have e : (A + m * bp 8) % pI = (A + 38 * m) % pI := by
    have : A + m * bp 8 = A + 38 * m + pI * (2 * m) := by rw [bp_eight]; unfold pI; omega
    rw [this, Int.add_mul_emod_self_left]
  rw [e]
  refine folded_gen A m a0 a1 m0 m1 ?_ w
  by_cases h : A + 38 * m < bp 8
  · exact Or.inl h
  · refine Or.inr ⟨by omega, fun w' => ?_⟩
    have e2 : (A + 38 * m) % pI = (A + 38 * m - bp 8 + 38 * 1) % pI := by
      have : A + 38 * m = A + 38 * m - bp 8 + 38 * 1 + pI * 2 := by rw [bp_eight]; unfold pI; omega
      rw [this, Int.add_mul_emod_self_left]; congr 1; omega
    rw [e2]
    rw [bp_eight] at *
    exact folded_small _ 1 (by omega) (by rw [bp_eight]; omega) (by omega) (by omega) (by rw [bp_eight]; omega) w'
end Go.Proofs.YtflmkgecgijncaaDoor
