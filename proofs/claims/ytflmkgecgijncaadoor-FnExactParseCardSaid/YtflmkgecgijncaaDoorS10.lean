/-
  spec.power, spec.inverse; the field's operations. Printed by gen_pow.py.
-/
import Derived.Test.YtflmkgecgijncaaDoorS9
namespace Go.Proofs.YtflmkgecgijncaaDoor
open Go.RowKit Go.Shelf Mth

/-- An element's number. -/
def fv (a : Fp) : Int := (a.val : Int)
theorem fv_fp (x : Int) : fv (fp x) = x % pI := fp_val x
theorem fp_fv (a : Fp) : fp (fv a) = a := fp_nat a
theorem fv_lo (a : Fp) : 0 ≤ fv a := Int.natCast_nonneg _
theorem fv_hi (a : Fp) : fv a < pI := by have h := a.isLt; unfold P at h; unfold fv pI; omega
theorem pI_bp : pI < bp 8 := by rw [bp_eight]; decide
theorem pI_two : pI * 2 ≤ bp 8 := by rw [bp_eight]; decide
theorem fv_bp (a : Fp) : fv a < bp 8 := Int.lt_trans (fv_hi a) pI_bp
theorem fv_mul (a b : Fp) : fv a * fv b % pI = fv (a * b) := by rw [← fv_fp, fp_mul, fp_fv, fp_fv]
theorem fv_add (a b : Fp) : (fv a + fv b) % pI = fv (a + b) := by rw [← fv_fp, fp_add, fp_fv, fp_fv]
theorem fv_sub (a b : Fp) : (fv a - fv b) % pI = fv (a - b) := by rw [← fv_fp, fp_sub, fp_fv, fp_fv]
theorem fv_inj {a b : Fp} (h : fv a = fv b) : a = b := by rw [← fp_fv a, ← fp_fv b, h]
theorem fv_zero : fv 0 = 0 := by decide +kernel
theorem fv_one : fv 1 = 1 := by decide +kernel

theorem times_f (a b : Fp) (w : World) : Calls Tryd.prog 36 #[.agg (NV (fv a)), .agg (NV (fv b))] w (RetN w (fv (a * b))) := by
  rw [← fv_mul]; exact times_any _ _ (fv_lo a) (fv_lo b) (fv_bp a) (fv_bp b) w
theorem plus_f (a b : Fp) (w : World) : Calls Tryd.prog 34 #[.agg (NV (fv a)), .agg (NV (fv b)), .agg (NV pI)] w (RetN w (fv (a + b))) := by
  rw [← fv_add]; exact plus_any _ _ _ (fv_lo a) (fv_lo b) (fv_hi a) (fv_hi b) pI_two w
theorem minus_f (a b : Fp) (w : World) : Calls Tryd.prog 35 #[.agg (NV (fv a)), .agg (NV (fv b)), .agg (NV pI)] w (RetN w (fv (a - b))) := by
  rw [← fv_sub]; exact minus_any _ _ _ (fv_lo a) (fv_lo b) (fv_hi a) (fv_hi b) pI_two w
theorem small_f (n : Int) (a : Fp) (h0 : 0 ≤ n) (h1 : n < 4294967296) (ha : n = fv a) (w : World) : Calls Tryd.prog 31 #[.int .u64 n] w (RetN w (fv a)) := by
  have := small_any n h0 h1 w
  rwa [show RetN w n = RetN w (fv a) by rw [ha]] at this

theorem pow_zero_bit {a : Fp} {E k : Nat} (h : nbit E k = false) : fpow a (E / 2 ^ (k + 1)) * fpow a (E / 2 ^ (k + 1)) = fpow a (E / 2 ^ k) := by
  rw [← fpow_add]
  congr 1
  unfold nbit at h
  have h2 : ((E / 2 ^ k : Nat) : Int) % 2 ≠ 1 := by simpa using h
  rw [Nat.pow_succ, ← Nat.div_div_eq_div_mul]
  omega
theorem pow_one_bit {a : Fp} {E k : Nat} (h : nbit E k = true) : fpow a (E / 2 ^ (k + 1)) * fpow a (E / 2 ^ (k + 1)) * a = fpow a (E / 2 ^ k) := by
  rw [← fpow_add]
  have h2 : ((E / 2 ^ k : Nat) : Int) % 2 = 1 := by unfold nbit at h; simpa using h
  have e : E / 2 ^ k = E / 2 ^ (k + 1) + E / 2 ^ (k + 1) + 1 := by
    rw [Nat.pow_succ, ← Nat.div_div_eq_div_mul]
    omega
  rw [e]; rfl


set_option maxRecDepth 100000 in
set_option maxHeartbeats 2000000 in
theorem power_any (a : Fp) (E : Nat) (hE : E < 2 ^ 256) (w : World) : Calls Tryd.prog 54 #[.agg (NV (fv a)), .agg (NV (E : Int))] w (RetN w (fv (fpow a E))) := by
  have HE := hid hE
  clear hE
  have H := three_n (fv a) E w
  go_enter Tryd.func54, Tryd.ntmps54
  go_wp2_with (first
    | (go_at_call 31; (with_reducible refine (small_f 1 1 (by decide) (by decide) fv_one.symm _).mono ?_); rintro e w1 ⟨rfl, hb⟩; have H1 := hid (H.out.call hb).zero; clear H hb)
    | (refine store_n rfl _ _ rfl w1.heap.size (fv 1) rfl rfl [] H1.out ?_; intro w2 H2; clear H1))
  generalize w1.heap.size = b5 at *
  go_loopw [6] (fun i wr => ∃ k : Nat, k ≤ 256 ∧ i = .int .i64 ((k : Int) - 1) ∧ Hid (Sto w wr w.heap.size [(b5, nob (fv (fpow a (E / 2 ^ k)))), (w.heap.size + 1 + 1, nob 0), (w.heap.size + 1, nob E), (w.heap.size, nob (fv a))])) (fun i _ => (intOf i + 1).toNat)
  case atStart => exact ⟨256, by omega, rfl, hid (by rw [Nat.div_eq_of_lt HE.out]; exact H2.out)⟩
  case round =>
    obtain ⟨k, hk, rfl, I⟩ := hrel
    clear H2
    cases k with
    | zero =>
      have I : Hid (Sto w wr w.heap.size [(b5, nob (fv (fpow a E))), (w.heap.size + 1 + 1, nob 0), (w.heap.size + 1, nob E), (w.heap.size, nob (fv a))]) := hid (by have := I.out; rwa [Nat.pow_zero, Nat.div_one] at this)
      go_wp2_with (first | (refine load_n rfl _ rfl b5 (fv (fpow a E)) rfl (I.out.mid []) ?_) | (refine store_n rfl _ _ rfl (w.heap.size + 1 + 1) (fv (fpow a E)) rfl rfl [_] I.out ?_; intro w3 H3))
      exact ret_n (p := 4) rfl rfl (H3.out.mid [_]) rfl ⟨rfl, H3.out.below⟩
    | succ j =>
      have e0 : (((j + 1 : Nat) : Int) - 1) = j := by omega
      rw [e0]
      have hj : j < 256 := by omega
      have HJ := hid hj
      cases hb : nbit E j
      · have EQ := hid (pow_zero_bit (a := a) hb)
        have HB := hid hb
        clear hb e0 hj
        generalize fpow a (E / 2 ^ (j + 1)) = x at *
        go_wp2_with (first
          | (refine load_n rfl _ rfl b5 (fv x) rfl (I.out.mid []) ?_)
          | (go_at_call 36; (with_reducible refine (times_f x x _).mono ?_); rintro e w3 ⟨rfl, hbw⟩; have H3 := hid (I.out.call hbw); clear I hbw)
          | (refine store_n rfl _ _ rfl b5 (fv (x * x)) rfl rfl [] H3.out ?_; intro w4 H4; clear H3)
          | (refine load_n rfl _ rfl (w.heap.size + 1) E rfl (H4.out.mid [_, _]) ?_)
          | (go_at_call 32; (with_reducible refine (bit_any E j HJ.out _).mono ?_); rintro e w5 ⟨rfl, hbw⟩; rw [HB.out]; have H5 := hid (H4.out.call hbw); clear H4 hbw))
        go_roundw
        case rel =>
          have Z := H5.out
          rw [EQ.out] at Z
          exact ⟨j, by have := HJ.out; omega, rfl, hid Z⟩
        case measure => simp [intOf]
      · have EQ := hid (pow_one_bit (a := a) hb)
        have HB := hid hb
        clear hb e0 hj
        generalize fpow a (E / 2 ^ (j + 1)) = x at *
        go_wp2_with (first
          | (refine load_n rfl _ rfl b5 (fv x) rfl (I.out.mid []) ?_)
          | (go_at_call 36; (with_reducible refine (times_f x x _).mono ?_); rintro e w3 ⟨rfl, hbw⟩; have H3 := hid (I.out.call hbw); clear I hbw)
          | (refine store_n rfl _ _ rfl b5 (fv (x * x)) rfl rfl [] H3.out ?_; intro w4 H4; clear H3)
          | (refine load_n rfl _ rfl (w.heap.size + 1) E rfl (H4.out.mid [_, _]) ?_)
          | (go_at_call 32; (with_reducible refine (bit_any E j HJ.out _).mono ?_); rintro e w5 ⟨rfl, hbw⟩; rw [HB.out]; have H5 := hid (H4.out.call hbw); clear H4 hbw)
          | (refine load_n rfl _ rfl b5 (fv (x * x)) rfl (H5.out.mid []) ?_)
          | (refine load_n rfl _ rfl w.heap.size (fv a) rfl (H5.out.mid [_, _, _]) ?_)
          | (go_at_call 36; (with_reducible refine (times_f (x * x) a _).mono ?_); rintro e w6 ⟨rfl, hbw⟩; have H6 := hid (H5.out.call hbw); clear H5 hbw)
          | (refine store_n rfl _ _ rfl b5 (fv (x * x * a)) rfl rfl [] H6.out ?_; intro w7 H7; clear H6))
        go_roundw
        case rel =>
          have Z := H7.out
          rw [EQ.out] at Z
          exact ⟨j, by have := HJ.out; omega, rfl, hid Z⟩
        case measure => simp [intOf]

def eI : Int := ((P - 2 : Nat) : Int)
theorem pm2 : pI - 2 = eI := by decide +kernel
theorem rest_p2 (w : World) : Calls Tryd.prog 44 #[.agg (NV pI), .agg (NV 2)] w (RetN w eI) := by
  have := rest_any pI 2 (by decide) (by decide) pI_bp w
  rwa [pm2] at this
theorem power_p2 (a : Fp) (w : World) : Calls Tryd.prog 54 #[.agg (NV (fv a)), .agg (NV eI)] w (RetN w (fv (iv a))) := power_any a (P - 2) (by decide +kernel) w

set_option maxRecDepth 100000 in
set_option maxHeartbeats 2000000 in
theorem inverse_f (a : Fp) (w : World) : Calls Tryd.prog 38 #[.agg (NV (fv a))] w (RetN w (fv (iv a))) := by
  have H := pair_n (fv a) w
  go_enter Tryd.func38, Tryd.ntmps38
  go_wp2_with fail
  refine region_free [0, 1, 2, 3, 4] [] [0, 1, 2, 3, 4] [.agg (NV (fv a)), .agg (NV pI), .agg (NV 2), .agg (NV eI), .agg (NV (fv (iv a))), undef] #[true, true, true, true, true, false] 1 (fun act _ => (((((act.put (some 3) (.agg (NV (fv a)))).put (some 4) (.agg (NV pI))).put (some 5) (.agg (NV 2))).put (some 6) (.agg (NV eI))).put (some 7) (.agg (NV (fv (iv a)))))) (by kernel_rfl) (by kernel_rfl) (by kernel_rfl) (by kernel_rfl) (by kernel_rfl) (fun β => by kernel_rfl) ⟨fun β w1 hb => givesAt_of ({ dst := some 3, op := Op.load 43 (Operand.tmp 1), type := 43, pos := "num.go:131", after := #[], guard := none }) (by kernel_rfl) (gives_load43 (.tmp 1) rfl (w.heap.size) (fv a) (by kernel_rfl) (kept_obj (H.out.mid [_]) hb)), fun β w1 hb => givesAt_of ({ dst := some 4, op := Op.call { callee := Callee.value (Operand.func 30), args := #[], argTypes := #[] }, type := 43, pos := "num.go:131", after := #[], guard := none }) (by kernel_rfl) (gives_call rfl ent30 #[] (by kernel_rfl) (prime_any _)), fun β w1 hb => givesAt_of ({ dst := some 5, op := Op.call { callee := Callee.value (Operand.func 31), args := #[Operand.const (Value.int IntKind.u64 2)], argTypes := #[41] }, type := 43, pos := "num.go:131", after := #[{ on := 1, ground := Ground.chain }], guard := none }) (by kernel_rfl) (gives_call rfl ent31 #[.int .u64 2] (by kernel_rfl) (small_any 2 (by decide) (by decide) _)), fun β w1 hb => givesAt_of ({ dst := some 6, op := Op.call { callee := Callee.value (Operand.func 44), args := #[Operand.tmp 4, Operand.tmp 5], argTypes := #[43, 43] }, type := 43, pos := "num.go:131", after := #[{ on := 1, ground := Ground.data }, { on := 2, ground := Ground.data }, { on := 2, ground := Ground.chain }], guard := none }) (by kernel_rfl) (gives_call rfl ent44 #[.agg (NV pI), .agg (NV 2)] (by kernel_rfl) (rest_p2 _)), fun β w1 hb => givesAt_of ({ dst := some 7, op := Op.call { callee := Callee.value (Operand.func 54), args := #[Operand.tmp 3, Operand.tmp 6], argTypes := #[43, 43] }, type := 43, pos := "num.go:131", after := #[{ on := 0, ground := Ground.data }, { on := 3, ground := Ground.data }, { on := 3, ground := Ground.chain }], guard := none }) (by kernel_rfl) (gives_call rfl ent54 #[.agg (NV (fv a)), .agg (NV eI)] (by kernel_rfl) (power_p2 a _)), trivial⟩ (fun β W hB hL => ?_)
  simp only [Act.put, List.setIfInBounds_toArray, List.set_cons_zero, List.set_cons_succ]
  refine wpAnyH_store (i := 5) (by kernel_rfl) ({ dst := none, op := Op.store 43 (Operand.tmp 2) (Operand.tmp 7), type := 0, pos := "num.go:131", after := #[{ on := 4, ground := Ground.data }, { on := 4, ground := Ground.chain }, { on := 0, ground := Ground.phase }, { on := 1, ground := Ground.phase }, { on := 2, ground := Ground.phase }, { on := 3, ground := Ground.phase }, { on := 4, ground := Ground.phase }], guard := none }) (by kernel_rfl) rfl rfl (.tmp 2) (.tmp 7) rfl (w.heap.size + 1) (fv (iv a)) (by kernel_rfl) (by kernel_rfl) [] (H.out.call hB) (fun W2 H2 => ?_)
  refine wpAnyH_end (by kernel_rfl) ?_
  have H2 := hid H2
  clear H hB hL
  go_wp2_with fail
  exact ret_n (p := 2) rfl rfl (H2.out.mid []) rfl ⟨rfl, H2.out.below⟩
end Go.Proofs.YtflmkgecgijncaaDoor
