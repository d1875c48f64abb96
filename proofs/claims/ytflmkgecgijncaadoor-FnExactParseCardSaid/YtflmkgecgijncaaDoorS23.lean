/-
  spec.opposite, spec.curve. Printed by gen_root.py.
  spec.root. Printed by gen_root2.py.
  spec.decoded. Printed by gen_dec.py.
-/
import Derived.Test.YtflmkgecgijncaaDoorS20
import Derived.Test.YtflmkgecgijncaaDoorM12

namespace Go.Proofs.YtflmkgecgijncaaDoor
open Go.RowKit Go.Shelf Mth

section
variable {o : Oper} {ρ : Operand → Value} {w : World}
theorem gives_build43 (parts : Array (Nat × Operand)) (ho : o.op = .build 43 parts) (V : Int) (l : List (Nat × Value)) (hl : (parts.map fun (i, x) => (i, ρ x)).toList = l) (hb : Tryd.prog.built 43 l = some (NV V)) : Gives Tryd.prog o ρ w fun v w' => v = .agg (NV V) ∧ Below w.heap.size w w' := by
  refine gives_val ?_
  unfold execOp
  simp only [ho, Sem.run_bind, run_build w 43 _ _ (by rw [hl]; exact hb), Result.andThen_ok]; rfl
theorem gives_eqf (x y : Operand) (t : TypeId) (ho : o.op = .binOp .eql 43 x y t) (p q : Fp) (hx : ρ x = .agg (NV (fv p))) (hy : ρ y = .agg (NV (fv q))) (r : Bool) (hr : r = decide (p = q)) : Gives Tryd.prog o ρ w fun v w' => v = .bool r ∧ Below w.heap.size w w' := by
  refine gives_val ?_
  subst hr
  unfold execOp
  simp only [ho, hx, hy, Sem.run_bind, Sem.run_pure, Result.andThen_ok, run_eqGuard_agg w .eql 43 x y _ _ guard43, run_eql_struct w 43, run_equal_f 9998 p q w]
theorem gives_nef (x y : Operand) (t : TypeId) (ho : o.op = .binOp .neq 43 x y t) (p q : Fp) (hx : ρ x = .agg (NV (fv p))) (hy : ρ y = .agg (NV (fv q))) (r : Bool) (hr : r = !decide (p = q)) : Gives Tryd.prog o ρ w fun v w' => v = .bool r ∧ Below w.heap.size w w' := by
  refine gives_val ?_
  subst hr
  unfold execOp
  simp only [ho, hx, hy, Sem.run_bind, Sem.run_pure, Result.andThen_ok, run_eqGuard_agg w .neq 43 x y _ _ guard43, run_neq_struct w 43, run_equal_f 9998 p q w]
end
theorem ent59 : Ent 59 := ent_of Tryd.func59 (by kernel_rfl) (by kernel_rfl)
theorem ent60 : Ent 60 := ent_of Tryd.func60 (by kernel_rfl) (by kernel_rfl)
theorem ent61 : Ent 61 := ent_of Tryd.func61 (by kernel_rfl) (by kernel_rfl)

set_option maxRecDepth 100000 in
set_option maxHeartbeats 2000000 in
theorem opposite_e (x c : Fp) (hc : Hid (c = 0 - x)) (w : World) : Calls Tryd.prog 61 #[.agg (NV (fv x))] w (RetN w (fv c)) := by
  have H := pair_n (fv x) w
  go_enter Tryd.func61, Tryd.ntmps61
  go_wp2_with fail
  refine region_free [0, 1, 2, 3] [] [0, 1, 2, 3] [.agg (NV (fv 0)), .agg (NV (fv x)), .agg (NV pI), .agg (NV (fv c)), undef] #[true, true, true, true, false] 1 (fun act _ => ((((act.put (some 3) (.agg (NV (fv 0)))).put (some 4) (.agg (NV (fv x)))).put (some 5) (.agg (NV pI))).put (some 6) (.agg (NV (fv c))))) (by kernel_rfl) (by kernel_rfl) (by kernel_rfl) (by kernel_rfl) (by kernel_rfl) (fun β => by kernel_rfl) ⟨fun β w1 hb => givesAt_of ({ dst := some 3, op := Op.build 43 #[], type := 43, pos := "sign.go:17", after := #[], guard := none }) (by kernel_rfl) (gives_build43 _ rfl (fv 0) _ (by kernel_rfl) built_zero_n), fun β w1 hb => givesAt_of ({ dst := some 4, op := Op.load 43 (Operand.tmp 1), type := 43, pos := "sign.go:17", after := #[], guard := none }) (by kernel_rfl) (gives_load43 (.tmp 1) rfl (w.heap.size) (fv x) (by kernel_rfl) (kept_obj (H.out.mid [_]) hb)), fun β w1 hb => givesAt_of ({ dst := some 5, op := Op.call { callee := Callee.value (Operand.func 30), args := #[], argTypes := #[] }, type := 43, pos := "sign.go:17", after := #[], guard := none }) (by kernel_rfl) (gives_call rfl ent30 #[] (by kernel_rfl) (prime_any _)), fun β w1 hb => givesAt_of ({ dst := some 6, op := Op.call { callee := Callee.value (Operand.func 35), args := #[Operand.tmp 3, Operand.tmp 4, Operand.tmp 5], argTypes := #[43, 43, 43] }, type := 43, pos := "sign.go:17", after := #[{ on := 0, ground := Ground.data }, { on := 1, ground := Ground.data }, { on := 2, ground := Ground.data }, { on := 2, ground := Ground.chain }], guard := none }) (by kernel_rfl) (gives_call rfl ent35 #[.agg (NV (fv 0)), .agg (NV (fv x)), .agg (NV pI)] (by kernel_rfl) (minus_e 0 x c hc _)), trivial⟩ (fun β W hB hL => ?_)
  simp only [Act.put, List.setIfInBounds_toArray, List.set_cons_zero, List.set_cons_succ]
  refine wpAnyH_store (i := 4) (by kernel_rfl) ({ dst := none, op := Op.store 43 (Operand.tmp 2) (Operand.tmp 6), type := 0, pos := "sign.go:17", after := #[{ on := 3, ground := Ground.data }, { on := 3, ground := Ground.chain }, { on := 0, ground := Ground.phase }, { on := 1, ground := Ground.phase }, { on := 2, ground := Ground.phase }, { on := 3, ground := Ground.phase }], guard := none }) (by kernel_rfl) rfl rfl (.tmp 2) (.tmp 6) rfl (w.heap.size + 1) (fv c) (by kernel_rfl) (by kernel_rfl) [] (H.out.call hB) (fun W2 H2 => ?_)
  refine wpAnyH_end (by kernel_rfl) ?_
  have H3 := hid H2
  clear H H2 hB hL
  go_wp2_with fail
  exact ret_n (p := 2) rfl rfl (H3.out.mid []) rfl ⟨rfl, H3.out.below⟩

theorem cA1_fv : (121666 : Int) = fv (cA + 1) := by decide +kernel
set_option maxRecDepth 100000 in
set_option maxHeartbeats 2000000 in
theorem curve_any (w : World) : Calls Tryd.prog 59 #[] w (RetN w (fv ((0 - cA) * Mth.iv (cA + 1)))) := by
  have H := hid (Sto.start w).zero
  obtain ⟨c1, hc1⟩ : ∃ z, z = 0 - cA := ⟨_, rfl⟩
  obtain ⟨c2, hc2⟩ : ∃ z, z = Mth.iv (cA + 1) := ⟨_, rfl⟩
  obtain ⟨c3, hc3⟩ : ∃ z, z = c1 * c2 := ⟨_, rfl⟩
  have E : (0 - cA) * Mth.iv (cA + 1) = c3 := by rw [hc3, hc2, hc1]
  rw [E]
  clear E
  replace hc1 := hid hc1
  replace hc2 := hid hc2
  replace hc3 := hid hc3
  go_enter Tryd.func59, Tryd.ntmps59
  go_wp2_with (first | (refine build_n rfl _ rfl (fv 0) _ (by kernel_rfl) built_zero_n ?_) | (go_at_call 31; (with_reducible refine (s_fv cA 121665 (by decide) (by decide) cA_fv _).mono ?_); rintro e w1 ⟨rfl, hb⟩; replace H := hid (H.out.call hb); clear hb) | (go_at_call 31; (with_reducible refine (s_fv (cA + 1) 121666 (by decide) (by decide) cA1_fv _).mono ?_); rintro e w1 ⟨rfl, hb⟩; replace H := hid (H.out.call hb); clear hb) | (go_at_call 30; (with_reducible refine (prime_any _).mono ?_); rintro e w1 ⟨rfl, hb⟩; replace H := hid (H.out.call hb); clear hb) | (go_at_call 35; (with_reducible refine (minus_e 0 cA c1 hc1 _).mono ?_); rintro e w1 ⟨rfl, hb⟩; replace H := hid (H.out.call hb); clear hb) | (go_at_call 38; (with_reducible refine (inverse_e (cA + 1) c2 hc2 _).mono ?_); rintro e w1 ⟨rfl, hb⟩; replace H := hid (H.out.call hb); clear hb) | (go_at_call 36; (with_reducible refine (times_e c1 c2 c3 hc3 _).mono ?_); rintro e w1 ⟨rfl, hb⟩; replace H := hid (H.out.call hb); clear hb) | (refine store_n rfl _ _ rfl (w.heap.size) (fv c3) rfl rfl [] H.out ?_; intro w2 H2))
  exact ret_n (p := 0) rfl rfl (H2.out.mid []) rfl ⟨rfl, H2.out.below⟩
end Go.Proofs.YtflmkgecgijncaaDoor

namespace Go.Proofs.YtflmkgecgijncaaDoor
open Go.RowKit Go.Shelf Mth

theorem built_q8 : Tryd.prog.built 43 [(0, .int .u64 4294967294), (1, .int .u64 4294967295), (2, .int .u64 4294967295), (3, .int .u64 4294967295), (4, .int .u64 4294967295), (5, .int .u64 4294967295), (6, .int .u64 4294967295), (7, .int .u64 268435455)] = some (NV (q8 : Int)) := by kernel_rfl
theorem built_q4 : Tryd.prog.built 43 [(0, .int .u64 4294967291), (1, .int .u64 4294967295), (2, .int .u64 4294967295), (3, .int .u64 4294967295), (4, .int .u64 4294967295), (5, .int .u64 4294967295), (6, .int .u64 4294967295), (7, .int .u64 536870911)] = some (NV (q4 : Int)) := by kernel_rfl
/-- The root, the even one. -/
def rootV (t : Fp) : Fp := if nbit (fv (root1 t)) 0 then 0 - root1 t else root1 t
/-- Whether there is a root. -/
def sqB (t : Fp) : Bool := decide (root1 t * root1 t = t)
theorem sq_neg {m : Nat} [NeZero m] (a : Fin m) : (0 - a) * (0 - a) = a * a := by grind
theorem bit0 (V : Int) (b : Bool) (hb : Hid (nbit V 0 = b)) (w : World) : Calls Tryd.prog 32 #[.agg (NV V), .int .i64 0] w (RetB w b) := by rw [← hb.out]; exact bit_any V 0 (by decide) w
theorem power_q8 (t r : Fp) (h : Hid (r = fpow t q8)) (w : World) : Calls Tryd.prog 54 #[.agg (NV (fv t)), .agg (NV (q8 : Int))] w (RetN w (fv r)) := by rw [h.out]; exact power_any t q8 (by decide) w
theorem power_q4 (w : World) : Calls Tryd.prog 54 #[.agg (NV (fv 2)), .agg (NV (q4 : Int))] w (RetN w (fv rI)) := power_any 2 q4 (by decide) w

/-- The call returned a root, perhaps, and whether it is one. -/
def RetR (w : World) (t : Fp) (e : Ending) (w' : World) : Prop := e = .returned (.tuple #[.agg (NV (fv (rootV t))), .bool (sqB t)]) ∧ Below w.heap.size w w'

theorem ret_nb {fn : Func} {p q : Tmp} {g : Nat} {V : Int} {v : Value} {R : Ending → World → Prop} {a : Act} {w : World} (hr : fn.results = #[.cell p 43, .tmp q]) (hp : a.tmps.getD p undef = .pointer (some ⟨g, 0, none⟩)) (hq : a.tmps.getD q undef = v)
    (hg : w.heap[g]? = some (nob V)) (hd : a.defers = []) (hR : R (.returned (.tuple #[.agg (NV V), v])) w) : bodyPost Tryd.prog fn R .ret a w := by
  refine bodyPost_ret ?_ hd hR
  have hp' : a.tmps[p]?.getD undef = .pointer (some ⟨g, 0, none⟩) := by simpa using hp
  have hq' : a.tmps[q]?.getD undef = v := by simpa using hq
  simp [results, hr, hp', hq', asAddr, run_loadVar_row w g 43 43 (NV V) (0, 0) _ hg Tryd.underlying43 rfl (by rw [info43, NV_size])]

set_option maxRecDepth 100000 in
set_option maxHeartbeats 8000000 in
theorem root_any (t : Fp) (w : World) : Calls Tryd.prog 60 #[.agg (NV (fv t))] w (RetR w t) := by
  have H := pair_n (fv t) w
  obtain ⟨r0, h0⟩ : ∃ z, z = fpow t q8 := ⟨_, rfl⟩
  have HR0 := hid h0
  obtain ⟨m0, hm0⟩ : ∃ z, z = r0 * r0 := ⟨_, rfl⟩
  have HM0 := hid hm0
  have H4 : Hid (Sto w _ w.heap.size [(w.heap.size + 1 + 1, nob 0), (w.heap.size + 1, nob 0), (w.heap.size, nob (fv t))]) := hid (by have Z := H.out.zero; rw [show ((w.alloc (.cells (NV (fv t)) 43)).alloc (.cells (List.replicate 8 (Value.int .u64 0)).toArray 43)).heap.size = w.heap.size + 1 + 1 by simp] at Z; exact Z)
  clear H
  by_cases hq : m0 = t
  · have D := hid (decide_eq_true hq)
    have ER : root1 t = r0 := by unfold root1; rw [← h0, if_pos (hm0.symm.trans hq)]
    cases hb : nbit (fv r0) 0
    · have HB := hid hb
      obtain ⟨m2, hm2⟩ : ∃ z, z = r0 * r0 := ⟨_, rfl⟩
      have HM2 := hid hm2
      have HE : Hid (sqB t = decide (m2 = t)) := hid (by unfold sqB; rw [ER, hm2])
      have HV : Hid (rootV t = r0) := hid (by unfold rootV; rw [ER, hb]; exact if_neg (by decide))
      clear hb ER hq h0 hm0 hm2
      go_enter Tryd.func60, Tryd.ntmps60
      go_wp2_with (first | (refine build_n rfl _ rfl (q8 : Int) _ (by kernel_rfl) built_q8 ?_) | (refine store_n rfl _ _ rfl (w.heap.size + 1 + 1) (q8 : Int) rfl rfl [] (H4.out) ?_; intro w1 G; clear H4) | (refine load_n rfl _ rfl (w.heap.size) _ rfl (G.out.mid [_, _]) ?_) | (refine load_n rfl _ rfl (w.heap.size + 1 + 1) _ rfl (G.out.mid []) ?_) | (go_at_call 54; (with_reducible refine (power_q8 t r0 HR0 _).mono ?_); rintro e w2 ⟨rfl, hb⟩; have G2 := hid (G.out.call hb).zero; clear G hb) | (refine store_n rfl _ _ rfl w2.heap.size (fv r0) rfl rfl [] G2.out ?_; intro w3 H; clear G2))
      generalize w2.heap.size = b5 at *
      refine region_free [0, 1, 2, 3, 4] [] [0, 1, 2, 3, 4] [.agg (NV (fv r0)), .agg (NV (fv r0)), .agg (NV (fv m0)), .agg (NV (fv t)), .bool false] #[true, true, true, true, true] 0 (fun act _ => (((((act.put (some 10) (.agg (NV (fv r0)))).put (some 11) (.agg (NV (fv r0)))).put (some 12) (.agg (NV (fv m0)))).put (some 13) (.agg (NV (fv t)))).put (some 14) (.bool false))) (by kernel_rfl) (by kernel_rfl) (by kernel_rfl) (by kernel_rfl) (by kernel_rfl) (fun β => by kernel_rfl) ⟨fun β w1 hb => givesAt_of ({ dst := some 10, op := Op.load 43 (Operand.tmp 5), type := 43, pos := "sign.go:24", after := #[], guard := none }) (by kernel_rfl) (gives_load43 (.tmp 5) rfl (b5) (fv r0) (by kernel_rfl) (kept_obj (H.out.mid []) hb)), fun β w1 hb => givesAt_of ({ dst := some 11, op := Op.load 43 (Operand.tmp 5), type := 43, pos := "sign.go:24", after := #[], guard := none }) (by kernel_rfl) (gives_load43 (.tmp 5) rfl (b5) (fv r0) (by kernel_rfl) (kept_obj (H.out.mid []) hb)), fun β w1 hb => givesAt_of ({ dst := some 12, op := Op.call { callee := Callee.value (Operand.func 36), args := #[Operand.tmp 10, Operand.tmp 11], argTypes := #[43, 43] }, type := 43, pos := "sign.go:24", after := #[{ on := 0, ground := Ground.data }, { on := 1, ground := Ground.data }], guard := none }) (by kernel_rfl) (gives_call rfl ent36 #[.agg (NV (fv r0)), .agg (NV (fv r0))] (by kernel_rfl) (times_e r0 r0 m0 HM0 _)), fun β w1 hb => givesAt_of ({ dst := some 13, op := Op.load 43 (Operand.tmp 1), type := 43, pos := "sign.go:24", after := #[], guard := none }) (by kernel_rfl) (gives_load43 (.tmp 1) rfl (w.heap.size) (fv t) (by kernel_rfl) (kept_obj (H.out.mid [_, _, _]) hb)), fun β w1 hb => givesAt_of ({ dst := some 14, op := Op.binOp BinOp.neq 43 (Operand.tmp 12) (Operand.tmp 13) 43, type := 4, pos := "sign.go:24", after := #[{ on := 2, ground := Ground.data }, { on := 3, ground := Ground.data }], guard := none }) (by kernel_rfl) (gives_nef (.tmp 12) (.tmp 13) _ rfl m0 t (by kernel_rfl) (by kernel_rfl) false (by rw [D.out]; rfl)), trivial⟩ (fun β W hB hL => ?_)
      refine wpAnyH_end (by kernel_rfl) ?_
      simp only [Act.put, List.setIfInBounds_toArray, List.set_cons_zero, List.set_cons_succ]
      replace H := hid (H.out.call hB)
      clear hB hL
      go_wp2_with (first | (refine load_n rfl _ rfl b5 _ rfl (H.out.mid []) ?_) | (go_at_call 32; (with_reducible refine (bit0 (fv r0) false HB _).mono ?_); rintro e w4 ⟨rfl, hb⟩; replace H := hid (H.out.call hb); clear hb))
      have HD := hid H.out.drew
      clear H
      refine wp_region_held_drew (S := fun v => v.heap[w.heap.size]? = some (nob (fv t)) ∧ True) (by kernel_rfl) ⟨HD.out.mid [_, _, _], trivial⟩ (fun hH0 => ?_)
      refine wpAnyH_take (i := 4) (oi := { dst := some 28, op := Op.load 43 (Operand.tmp 1), type := 43, pos := "sign.go:30", after := #[{ on := 6, ground := Ground.gcOnly Departure.lateStores }], guard := none }) (v := .agg (NV (fv t))) rfl (by kernel_rfl) (by kernel_rfl) (by kernel_rfl) (fun _ _ _ h => h) (y_load_n rfl (.tmp 1) rfl (w.heap.size) (fv t) rfl (fun v hv => hv.1)) hH0 ?_
      simp only [Act.put, List.setIfInBounds_toArray, List.set_cons_zero, List.set_cons_succ]
      refine free_t 5 [0, 1, 2, 3, 5] [] [0, 1, 2, 3, 5] [.agg (NV (fv r0)), .agg (NV (fv r0)), .agg (NV (fv r0)), .agg (NV (fv m2)), undef, .bool (sqB t), undef, undef] #[false, false, false, false, true, false, false, false] #[true, true, true, true, true, true, false, false] #[true, true, true, true, true, false, false, false] 2 (fun act _ => (((((act.put (some 24) (.agg (NV (fv r0)))).put (some 25) (.agg (NV (fv r0)))).put (some 26) (.agg (NV (fv r0)))).put (some 27) (.agg (NV (fv m2)))).put (some 29) (.bool (sqB t)))) (fun act _ => ((((act.put (some 24) (.agg (NV (fv r0)))).put (some 25) (.agg (NV (fv r0)))).put (some 26) (.agg (NV (fv r0)))).put (some 27) (.agg (NV (fv m2))))) (by kernel_rfl) (by kernel_rfl) (by kernel_rfl) (by kernel_rfl) (by kernel_rfl) (by kernel_rfl) (fun β => by kernel_rfl) (fun β => by kernel_rfl) ⟨fun β w1 hb => givesAt_of ({ dst := some 24, op := Op.load 43 (Operand.tmp 5), type := 43, pos := "sign.go:30", after := #[], guard := none }) (by kernel_rfl) (gives_load43 (.tmp 5) rfl (b5) (fv r0) (by kernel_rfl) (kept_obj (HD.out.mid []) hb)), fun β w1 hb => givesAt_of ({ dst := some 25, op := Op.load 43 (Operand.tmp 5), type := 43, pos := "sign.go:30", after := #[], guard := none }) (by kernel_rfl) (gives_load43 (.tmp 5) rfl (b5) (fv r0) (by kernel_rfl) (kept_obj (HD.out.mid []) hb)), fun β w1 hb => givesAt_of ({ dst := some 26, op := Op.load 43 (Operand.tmp 5), type := 43, pos := "sign.go:30", after := #[], guard := none }) (by kernel_rfl) (gives_load43 (.tmp 5) rfl (b5) (fv r0) (by kernel_rfl) (kept_obj (HD.out.mid []) hb)), fun β w1 hb => givesAt_of ({ dst := some 27, op := Op.call { callee := Callee.value (Operand.func 36), args := #[Operand.tmp 25, Operand.tmp 26], argTypes := #[43, 43] }, type := 43, pos := "sign.go:30", after := #[{ on := 1, ground := Ground.data }, { on := 2, ground := Ground.data }], guard := none }) (by kernel_rfl) (gives_call rfl ent36 #[.agg (NV (fv r0)), .agg (NV (fv r0))] (by kernel_rfl) (times_e r0 r0 m2 HM2 _)), fun β w1 hb => givesAt_of ({ dst := some 29, op := Op.binOp BinOp.eql 43 (Operand.tmp 27) (Operand.tmp 28) 43, type := 4, pos := "sign.go:30", after := #[{ on := 3, ground := Ground.data }, { on := 4, ground := Ground.data }, { on := 6, ground := Ground.gcOnly Departure.lateStores }], guard := none }) (by kernel_rfl) (gives_eqf (.tmp 27) (.tmp 28) _ rfl m2 t (by kernel_rfl) (by kernel_rfl) (sqB t) HE.out), trivial⟩ (fun β => by kernel_rfl) (fun w1 hb => ⟨kept_obj (HD.out.mid [_, _, _]) hb, trivial⟩) (fun β W hB hL => ?_) (fun fin β W hB hL => ?_)
      rotate_left
      · refine wpAnyH_take (i := 5) (oi := { dst := some 29, op := Op.binOp BinOp.eql 43 (Operand.tmp 27) (Operand.tmp 28) 43, type := 4, pos := "sign.go:30", after := #[{ on := 3, ground := Ground.data }, { on := 4, ground := Ground.data }, { on := 6, ground := Ground.gcOnly Departure.lateStores }], guard := none }) (v := .bool (sqB t)) rfl (by kernel_rfl) (by kernel_rfl) (by kernel_rfl) (fun _ _ _ h => h) (y_eqf rfl (.tmp 27) (.tmp 28) _ rfl m2 t (by kernel_rfl) (by kernel_rfl) (sqB t) HE.out) ⟨kept_obj (HD.out.mid [_, _, _]) hB, trivial⟩ ?_
        exact fin β W hB hL
      simp only [Act.put, List.setIfInBounds_toArray, List.set_cons_zero, List.set_cons_succ]
      refine store_any (i := 6) (by kernel_rfl) ({ dst := none, op := Op.store 43 (Operand.tmp 2) (Operand.tmp 24), type := 0, pos := "sign.go:30", after := #[{ on := 0, ground := Ground.data }, { on := 3, ground := Ground.chain }, { on := 0, ground := Ground.phase }, { on := 1, ground := Ground.textOnly Departure.lateStores }, { on := 2, ground := Ground.textOnly Departure.lateStores }, { on := 3, ground := Ground.textOnly Departure.lateStoresUnsure }, { on := 4, ground := Ground.textOnly Departure.lateStores }, { on := 5, ground := Ground.textOnly Departure.lateStores }], guard := none }) (by kernel_rfl) rfl rfl (.tmp 2) (.tmp 24) rfl (w.heap.size + 1) (fv r0) (by kernel_rfl) (by kernel_rfl) [_, _] (HD.out.call hB) (fun W2 H2 => ⟨⟨H2.mid [_, _, _], trivial⟩, ?_⟩)
      refine wpAnyH_take (i := 7) (oi := { dst := some 3, op := Op.assign (Operand.tmp 29), type := 4, pos := "sign.go:30", after := #[{ on := 5, ground := Ground.data }, { on := 6, ground := Ground.chain }, { on := 0, ground := Ground.phase }, { on := 1, ground := Ground.phase }, { on := 2, ground := Ground.phase }, { on := 3, ground := Ground.phase }, { on := 4, ground := Ground.phase }, { on := 5, ground := Ground.phase }, { on := 6, ground := Ground.phase }], guard := none }) (v := .bool (sqB t)) rfl (by kernel_rfl) (by kernel_rfl) (by kernel_rfl) (fun _ _ _ h => h) (Or.inl ⟨rfl, fun v hv => rfl⟩) ⟨H2.mid [_, _, _], trivial⟩ ?_
      simp only [Act.put, List.setIfInBounds_toArray, List.set_cons_zero, List.set_cons_succ]
      refine wpAnyH_end (by kernel_rfl) ?_
      have H3 := hid H2
      clear HD hH0 H2 hB hL
      go_wp2_with fail
      exact ret_nb (p := 2) (q := 3) rfl rfl rfl (H3.out.mid [_, _]) rfl ⟨by rw [HV.out]; rfl, H3.out.below⟩
    · have HB := hid hb
      obtain ⟨r2, h2⟩ : ∃ z, z = 0 - r0 := ⟨_, rfl⟩
      have HR2 := hid h2
      obtain ⟨m2, hm2⟩ : ∃ z, z = r2 * r2 := ⟨_, rfl⟩
      have HM2 := hid hm2
      have HE : Hid (sqB t = decide (m2 = t)) := hid (by unfold sqB; rw [ER, hm2, h2, sq_neg])
      have HV : Hid (rootV t = r2) := hid (by unfold rootV; rw [ER, hb, h2]; exact if_pos rfl)
      clear hb ER hq h0 hm0 hm2 h2
      go_enter Tryd.func60, Tryd.ntmps60
      go_wp2_with (first | (refine build_n rfl _ rfl (q8 : Int) _ (by kernel_rfl) built_q8 ?_) | (refine store_n rfl _ _ rfl (w.heap.size + 1 + 1) (q8 : Int) rfl rfl [] (H4.out) ?_; intro w1 G; clear H4) | (refine load_n rfl _ rfl (w.heap.size) _ rfl (G.out.mid [_, _]) ?_) | (refine load_n rfl _ rfl (w.heap.size + 1 + 1) _ rfl (G.out.mid []) ?_) | (go_at_call 54; (with_reducible refine (power_q8 t r0 HR0 _).mono ?_); rintro e w2 ⟨rfl, hb⟩; have G2 := hid (G.out.call hb).zero; clear G hb) | (refine store_n rfl _ _ rfl w2.heap.size (fv r0) rfl rfl [] G2.out ?_; intro w3 H; clear G2))
      generalize w2.heap.size = b5 at *
      refine region_free [0, 1, 2, 3, 4] [] [0, 1, 2, 3, 4] [.agg (NV (fv r0)), .agg (NV (fv r0)), .agg (NV (fv m0)), .agg (NV (fv t)), .bool false] #[true, true, true, true, true] 0 (fun act _ => (((((act.put (some 10) (.agg (NV (fv r0)))).put (some 11) (.agg (NV (fv r0)))).put (some 12) (.agg (NV (fv m0)))).put (some 13) (.agg (NV (fv t)))).put (some 14) (.bool false))) (by kernel_rfl) (by kernel_rfl) (by kernel_rfl) (by kernel_rfl) (by kernel_rfl) (fun β => by kernel_rfl) ⟨fun β w1 hb => givesAt_of ({ dst := some 10, op := Op.load 43 (Operand.tmp 5), type := 43, pos := "sign.go:24", after := #[], guard := none }) (by kernel_rfl) (gives_load43 (.tmp 5) rfl (b5) (fv r0) (by kernel_rfl) (kept_obj (H.out.mid []) hb)), fun β w1 hb => givesAt_of ({ dst := some 11, op := Op.load 43 (Operand.tmp 5), type := 43, pos := "sign.go:24", after := #[], guard := none }) (by kernel_rfl) (gives_load43 (.tmp 5) rfl (b5) (fv r0) (by kernel_rfl) (kept_obj (H.out.mid []) hb)), fun β w1 hb => givesAt_of ({ dst := some 12, op := Op.call { callee := Callee.value (Operand.func 36), args := #[Operand.tmp 10, Operand.tmp 11], argTypes := #[43, 43] }, type := 43, pos := "sign.go:24", after := #[{ on := 0, ground := Ground.data }, { on := 1, ground := Ground.data }], guard := none }) (by kernel_rfl) (gives_call rfl ent36 #[.agg (NV (fv r0)), .agg (NV (fv r0))] (by kernel_rfl) (times_e r0 r0 m0 HM0 _)), fun β w1 hb => givesAt_of ({ dst := some 13, op := Op.load 43 (Operand.tmp 1), type := 43, pos := "sign.go:24", after := #[], guard := none }) (by kernel_rfl) (gives_load43 (.tmp 1) rfl (w.heap.size) (fv t) (by kernel_rfl) (kept_obj (H.out.mid [_, _, _]) hb)), fun β w1 hb => givesAt_of ({ dst := some 14, op := Op.binOp BinOp.neq 43 (Operand.tmp 12) (Operand.tmp 13) 43, type := 4, pos := "sign.go:24", after := #[{ on := 2, ground := Ground.data }, { on := 3, ground := Ground.data }], guard := none }) (by kernel_rfl) (gives_nef (.tmp 12) (.tmp 13) _ rfl m0 t (by kernel_rfl) (by kernel_rfl) false (by rw [D.out]; rfl)), trivial⟩ (fun β W hB hL => ?_)
      refine wpAnyH_end (by kernel_rfl) ?_
      simp only [Act.put, List.setIfInBounds_toArray, List.set_cons_zero, List.set_cons_succ]
      replace H := hid (H.out.call hB)
      clear hB hL
      go_wp2_with (first | (refine load_n rfl _ rfl b5 _ rfl (H.out.mid []) ?_) | (go_at_call 32; (with_reducible refine (bit0 (fv r0) true HB _).mono ?_); rintro e w4 ⟨rfl, hb⟩; replace H := hid (H.out.call hb); clear hb) | (go_at_call 61; (with_reducible refine (opposite_e r0 r2 HR2 _).mono ?_); rintro e w5 ⟨rfl, hb⟩; replace H := hid (H.out.call hb); clear hb) | (refine store_n rfl _ _ rfl b5 (fv r2) rfl rfl [] H.out ?_; intro w6 G6; replace H := G6; clear G6))
      have HD := hid H.out.drew
      clear H
      refine wp_region_held_drew (S := fun v => v.heap[w.heap.size]? = some (nob (fv t)) ∧ True) (by kernel_rfl) ⟨HD.out.mid [_, _, _], trivial⟩ (fun hH0 => ?_)
      refine wpAnyH_take (i := 4) (oi := { dst := some 28, op := Op.load 43 (Operand.tmp 1), type := 43, pos := "sign.go:30", after := #[{ on := 6, ground := Ground.gcOnly Departure.lateStores }], guard := none }) (v := .agg (NV (fv t))) rfl (by kernel_rfl) (by kernel_rfl) (by kernel_rfl) (fun _ _ _ h => h) (y_load_n rfl (.tmp 1) rfl (w.heap.size) (fv t) rfl (fun v hv => hv.1)) hH0 ?_
      simp only [Act.put, List.setIfInBounds_toArray, List.set_cons_zero, List.set_cons_succ]
      refine free_t 5 [0, 1, 2, 3, 5] [] [0, 1, 2, 3, 5] [.agg (NV (fv r2)), .agg (NV (fv r2)), .agg (NV (fv r2)), .agg (NV (fv m2)), undef, .bool (sqB t), undef, undef] #[false, false, false, false, true, false, false, false] #[true, true, true, true, true, true, false, false] #[true, true, true, true, true, false, false, false] 2 (fun act _ => (((((act.put (some 24) (.agg (NV (fv r2)))).put (some 25) (.agg (NV (fv r2)))).put (some 26) (.agg (NV (fv r2)))).put (some 27) (.agg (NV (fv m2)))).put (some 29) (.bool (sqB t)))) (fun act _ => ((((act.put (some 24) (.agg (NV (fv r2)))).put (some 25) (.agg (NV (fv r2)))).put (some 26) (.agg (NV (fv r2)))).put (some 27) (.agg (NV (fv m2))))) (by kernel_rfl) (by kernel_rfl) (by kernel_rfl) (by kernel_rfl) (by kernel_rfl) (by kernel_rfl) (fun β => by kernel_rfl) (fun β => by kernel_rfl) ⟨fun β w1 hb => givesAt_of ({ dst := some 24, op := Op.load 43 (Operand.tmp 5), type := 43, pos := "sign.go:30", after := #[], guard := none }) (by kernel_rfl) (gives_load43 (.tmp 5) rfl (b5) (fv r2) (by kernel_rfl) (kept_obj (HD.out.mid []) hb)), fun β w1 hb => givesAt_of ({ dst := some 25, op := Op.load 43 (Operand.tmp 5), type := 43, pos := "sign.go:30", after := #[], guard := none }) (by kernel_rfl) (gives_load43 (.tmp 5) rfl (b5) (fv r2) (by kernel_rfl) (kept_obj (HD.out.mid []) hb)), fun β w1 hb => givesAt_of ({ dst := some 26, op := Op.load 43 (Operand.tmp 5), type := 43, pos := "sign.go:30", after := #[], guard := none }) (by kernel_rfl) (gives_load43 (.tmp 5) rfl (b5) (fv r2) (by kernel_rfl) (kept_obj (HD.out.mid []) hb)), fun β w1 hb => givesAt_of ({ dst := some 27, op := Op.call { callee := Callee.value (Operand.func 36), args := #[Operand.tmp 25, Operand.tmp 26], argTypes := #[43, 43] }, type := 43, pos := "sign.go:30", after := #[{ on := 1, ground := Ground.data }, { on := 2, ground := Ground.data }], guard := none }) (by kernel_rfl) (gives_call rfl ent36 #[.agg (NV (fv r2)), .agg (NV (fv r2))] (by kernel_rfl) (times_e r2 r2 m2 HM2 _)), fun β w1 hb => givesAt_of ({ dst := some 29, op := Op.binOp BinOp.eql 43 (Operand.tmp 27) (Operand.tmp 28) 43, type := 4, pos := "sign.go:30", after := #[{ on := 3, ground := Ground.data }, { on := 4, ground := Ground.data }, { on := 6, ground := Ground.gcOnly Departure.lateStores }], guard := none }) (by kernel_rfl) (gives_eqf (.tmp 27) (.tmp 28) _ rfl m2 t (by kernel_rfl) (by kernel_rfl) (sqB t) HE.out), trivial⟩ (fun β => by kernel_rfl) (fun w1 hb => ⟨kept_obj (HD.out.mid [_, _, _]) hb, trivial⟩) (fun β W hB hL => ?_) (fun fin β W hB hL => ?_)
      rotate_left
      · refine wpAnyH_take (i := 5) (oi := { dst := some 29, op := Op.binOp BinOp.eql 43 (Operand.tmp 27) (Operand.tmp 28) 43, type := 4, pos := "sign.go:30", after := #[{ on := 3, ground := Ground.data }, { on := 4, ground := Ground.data }, { on := 6, ground := Ground.gcOnly Departure.lateStores }], guard := none }) (v := .bool (sqB t)) rfl (by kernel_rfl) (by kernel_rfl) (by kernel_rfl) (fun _ _ _ h => h) (y_eqf rfl (.tmp 27) (.tmp 28) _ rfl m2 t (by kernel_rfl) (by kernel_rfl) (sqB t) HE.out) ⟨kept_obj (HD.out.mid [_, _, _]) hB, trivial⟩ ?_
        exact fin β W hB hL
      simp only [Act.put, List.setIfInBounds_toArray, List.set_cons_zero, List.set_cons_succ]
      refine store_any (i := 6) (by kernel_rfl) ({ dst := none, op := Op.store 43 (Operand.tmp 2) (Operand.tmp 24), type := 0, pos := "sign.go:30", after := #[{ on := 0, ground := Ground.data }, { on := 3, ground := Ground.chain }, { on := 0, ground := Ground.phase }, { on := 1, ground := Ground.textOnly Departure.lateStores }, { on := 2, ground := Ground.textOnly Departure.lateStores }, { on := 3, ground := Ground.textOnly Departure.lateStoresUnsure }, { on := 4, ground := Ground.textOnly Departure.lateStores }, { on := 5, ground := Ground.textOnly Departure.lateStores }], guard := none }) (by kernel_rfl) rfl rfl (.tmp 2) (.tmp 24) rfl (w.heap.size + 1) (fv r2) (by kernel_rfl) (by kernel_rfl) [_, _] (HD.out.call hB) (fun W2 H2 => ⟨⟨H2.mid [_, _, _], trivial⟩, ?_⟩)
      refine wpAnyH_take (i := 7) (oi := { dst := some 3, op := Op.assign (Operand.tmp 29), type := 4, pos := "sign.go:30", after := #[{ on := 5, ground := Ground.data }, { on := 6, ground := Ground.chain }, { on := 0, ground := Ground.phase }, { on := 1, ground := Ground.phase }, { on := 2, ground := Ground.phase }, { on := 3, ground := Ground.phase }, { on := 4, ground := Ground.phase }, { on := 5, ground := Ground.phase }, { on := 6, ground := Ground.phase }], guard := none }) (v := .bool (sqB t)) rfl (by kernel_rfl) (by kernel_rfl) (by kernel_rfl) (fun _ _ _ h => h) (Or.inl ⟨rfl, fun v hv => rfl⟩) ⟨H2.mid [_, _, _], trivial⟩ ?_
      simp only [Act.put, List.setIfInBounds_toArray, List.set_cons_zero, List.set_cons_succ]
      refine wpAnyH_end (by kernel_rfl) ?_
      have H3 := hid H2
      clear HD hH0 H2 hB hL
      go_wp2_with fail
      exact ret_nb (p := 2) (q := 3) rfl rfl rfl (H3.out.mid [_, _]) rfl ⟨by rw [HV.out]; rfl, H3.out.below⟩
  · have D := hid (decide_eq_false hq)
    obtain ⟨r1, h1⟩ : ∃ z, z = r0 * rI := ⟨_, rfl⟩
    have ER : root1 t = r1 := by unfold root1; rw [← h0, if_neg (fun h => hq (hm0.trans h)), ← h1]
    have HR1 := hid h1
    cases hb : nbit (fv r1) 0
    · have HB := hid hb
      obtain ⟨m2, hm2⟩ : ∃ z, z = r1 * r1 := ⟨_, rfl⟩
      have HM2 := hid hm2
      have HE : Hid (sqB t = decide (m2 = t)) := hid (by unfold sqB; rw [ER, hm2])
      have HV : Hid (rootV t = r1) := hid (by unfold rootV; rw [ER, hb]; exact if_neg (by decide))
      clear hb ER hq h0 hm0 hm2 h1
      go_enter Tryd.func60, Tryd.ntmps60
      go_wp2_with (first | (refine build_n rfl _ rfl (q8 : Int) _ (by kernel_rfl) built_q8 ?_) | (refine store_n rfl _ _ rfl (w.heap.size + 1 + 1) (q8 : Int) rfl rfl [] (H4.out) ?_; intro w1 G; clear H4) | (refine load_n rfl _ rfl (w.heap.size) _ rfl (G.out.mid [_, _]) ?_) | (refine load_n rfl _ rfl (w.heap.size + 1 + 1) _ rfl (G.out.mid []) ?_) | (go_at_call 54; (with_reducible refine (power_q8 t r0 HR0 _).mono ?_); rintro e w2 ⟨rfl, hb⟩; have G2 := hid (G.out.call hb).zero; clear G hb) | (refine store_n rfl _ _ rfl w2.heap.size (fv r0) rfl rfl [] G2.out ?_; intro w3 H; clear G2))
      generalize w2.heap.size = b5 at *
      refine region_free [0, 1, 2, 3, 4] [] [0, 1, 2, 3, 4] [.agg (NV (fv r0)), .agg (NV (fv r0)), .agg (NV (fv m0)), .agg (NV (fv t)), .bool true] #[true, true, true, true, true] 0 (fun act _ => (((((act.put (some 10) (.agg (NV (fv r0)))).put (some 11) (.agg (NV (fv r0)))).put (some 12) (.agg (NV (fv m0)))).put (some 13) (.agg (NV (fv t)))).put (some 14) (.bool true))) (by kernel_rfl) (by kernel_rfl) (by kernel_rfl) (by kernel_rfl) (by kernel_rfl) (fun β => by kernel_rfl) ⟨fun β w1 hb => givesAt_of ({ dst := some 10, op := Op.load 43 (Operand.tmp 5), type := 43, pos := "sign.go:24", after := #[], guard := none }) (by kernel_rfl) (gives_load43 (.tmp 5) rfl (b5) (fv r0) (by kernel_rfl) (kept_obj (H.out.mid []) hb)), fun β w1 hb => givesAt_of ({ dst := some 11, op := Op.load 43 (Operand.tmp 5), type := 43, pos := "sign.go:24", after := #[], guard := none }) (by kernel_rfl) (gives_load43 (.tmp 5) rfl (b5) (fv r0) (by kernel_rfl) (kept_obj (H.out.mid []) hb)), fun β w1 hb => givesAt_of ({ dst := some 12, op := Op.call { callee := Callee.value (Operand.func 36), args := #[Operand.tmp 10, Operand.tmp 11], argTypes := #[43, 43] }, type := 43, pos := "sign.go:24", after := #[{ on := 0, ground := Ground.data }, { on := 1, ground := Ground.data }], guard := none }) (by kernel_rfl) (gives_call rfl ent36 #[.agg (NV (fv r0)), .agg (NV (fv r0))] (by kernel_rfl) (times_e r0 r0 m0 HM0 _)), fun β w1 hb => givesAt_of ({ dst := some 13, op := Op.load 43 (Operand.tmp 1), type := 43, pos := "sign.go:24", after := #[], guard := none }) (by kernel_rfl) (gives_load43 (.tmp 1) rfl (w.heap.size) (fv t) (by kernel_rfl) (kept_obj (H.out.mid [_, _, _]) hb)), fun β w1 hb => givesAt_of ({ dst := some 14, op := Op.binOp BinOp.neq 43 (Operand.tmp 12) (Operand.tmp 13) 43, type := 4, pos := "sign.go:24", after := #[{ on := 2, ground := Ground.data }, { on := 3, ground := Ground.data }], guard := none }) (by kernel_rfl) (gives_nef (.tmp 12) (.tmp 13) _ rfl m0 t (by kernel_rfl) (by kernel_rfl) true (by rw [D.out]; rfl)), trivial⟩ (fun β W hB hL => ?_)
      refine wpAnyH_end (by kernel_rfl) ?_
      simp only [Act.put, List.setIfInBounds_toArray, List.set_cons_zero, List.set_cons_succ]
      replace H := hid (H.out.call hB)
      clear hB hL
      go_wp2_with fail
      refine region_free [0, 1, 2, 3, 4] [] [0, 1, 2, 3, 4] [.agg (NV (fv r0)), .agg (NV (fv 2)), .agg (NV (q4 : Int)), .agg (NV (fv rI)), .agg (NV (fv r1)), undef] #[true, true, true, true, true, false] 1 (fun act _ => (((((act.put (some 15) (.agg (NV (fv r0)))).put (some 16) (.agg (NV (fv 2)))).put (some 17) (.agg (NV (q4 : Int)))).put (some 18) (.agg (NV (fv rI)))).put (some 19) (.agg (NV (fv r1))))) (by kernel_rfl) (by kernel_rfl) (by kernel_rfl) (by kernel_rfl) (by kernel_rfl) (fun β => by kernel_rfl) ⟨fun β w1 hb => givesAt_of ({ dst := some 15, op := Op.load 43 (Operand.tmp 5), type := 43, pos := "sign.go:25", after := #[], guard := none }) (by kernel_rfl) (gives_load43 (.tmp 5) rfl (b5) (fv r0) (by kernel_rfl) (kept_obj (H.out.mid []) hb)), fun β w1 hb => givesAt_of ({ dst := some 16, op := Op.call { callee := Callee.value (Operand.func 31), args := #[Operand.const (Value.int IntKind.u64 2)], argTypes := #[41] }, type := 43, pos := "sign.go:25", after := #[], guard := none }) (by kernel_rfl) (gives_call rfl ent31 #[.int .u64 2] (by kernel_rfl) (s_fv 2 2 (by decide) (by decide) cTwo _)), fun β w1 hb => givesAt_of ({ dst := some 17, op := Op.build 43 #[(0, Operand.const (Value.int IntKind.u64 4294967291)), (1, Operand.const (Value.int IntKind.u64 4294967295)), (2, Operand.const (Value.int IntKind.u64 4294967295)), (3, Operand.const (Value.int IntKind.u64 4294967295)), (4, Operand.const (Value.int IntKind.u64 4294967295)), (5, Operand.const (Value.int IntKind.u64 4294967295)), (6, Operand.const (Value.int IntKind.u64 4294967295)), (7, Operand.const (Value.int IntKind.u64 536870911))], type := 43, pos := "sign.go:25", after := #[], guard := none }) (by kernel_rfl) (gives_build43 _ rfl (q4 : Int) _ (by kernel_rfl) built_q4), fun β w1 hb => givesAt_of ({ dst := some 18, op := Op.call { callee := Callee.value (Operand.func 54), args := #[Operand.tmp 16, Operand.tmp 17], argTypes := #[43, 43] }, type := 43, pos := "sign.go:25", after := #[{ on := 1, ground := Ground.data }, { on := 2, ground := Ground.data }, { on := 1, ground := Ground.chain }], guard := none }) (by kernel_rfl) (gives_call rfl ent54 #[.agg (NV (fv 2)), .agg (NV (q4 : Int))] (by kernel_rfl) (power_q4 _)), fun β w1 hb => givesAt_of ({ dst := some 19, op := Op.call { callee := Callee.value (Operand.func 36), args := #[Operand.tmp 15, Operand.tmp 18], argTypes := #[43, 43] }, type := 43, pos := "sign.go:25", after := #[{ on := 0, ground := Ground.data }, { on := 3, ground := Ground.data }, { on := 3, ground := Ground.chain }], guard := none }) (by kernel_rfl) (gives_call rfl ent36 #[.agg (NV (fv r0)), .agg (NV (fv rI))] (by kernel_rfl) (times_e r0 rI r1 HR1 _)), trivial⟩ (fun β W hB hL => ?_)
      simp only [Act.put, List.setIfInBounds_toArray, List.set_cons_zero, List.set_cons_succ]
      refine wpAnyH_store (i := 5) (by kernel_rfl) ({ dst := none, op := Op.store 43 (Operand.tmp 5) (Operand.tmp 19), type := 0, pos := "sign.go:25", after := #[{ on := 4, ground := Ground.data }, { on := 4, ground := Ground.chain }, { on := 0, ground := Ground.phase }, { on := 1, ground := Ground.phase }, { on := 2, ground := Ground.phase }, { on := 3, ground := Ground.phase }, { on := 4, ground := Ground.phase }], guard := none }) (by kernel_rfl) rfl rfl (.tmp 5) (.tmp 19) rfl (b5) (fv r1) (by kernel_rfl) (by kernel_rfl) [] (H.out.call hB) (fun W2 H2 => ?_)
      refine wpAnyH_end (by kernel_rfl) ?_
      replace H := hid H2
      clear hB hL H2
      go_wp2_with (first | (refine load_n rfl _ rfl b5 _ rfl (H.out.mid []) ?_) | (go_at_call 32; (with_reducible refine (bit0 (fv r1) false HB _).mono ?_); rintro e w4 ⟨rfl, hb⟩; replace H := hid (H.out.call hb); clear hb))
      have HD := hid H.out.drew
      clear H
      refine wp_region_held_drew (S := fun v => v.heap[w.heap.size]? = some (nob (fv t)) ∧ True) (by kernel_rfl) ⟨HD.out.mid [_, _, _], trivial⟩ (fun hH0 => ?_)
      refine wpAnyH_take (i := 4) (oi := { dst := some 28, op := Op.load 43 (Operand.tmp 1), type := 43, pos := "sign.go:30", after := #[{ on := 6, ground := Ground.gcOnly Departure.lateStores }], guard := none }) (v := .agg (NV (fv t))) rfl (by kernel_rfl) (by kernel_rfl) (by kernel_rfl) (fun _ _ _ h => h) (y_load_n rfl (.tmp 1) rfl (w.heap.size) (fv t) rfl (fun v hv => hv.1)) hH0 ?_
      simp only [Act.put, List.setIfInBounds_toArray, List.set_cons_zero, List.set_cons_succ]
      refine free_t 5 [0, 1, 2, 3, 5] [] [0, 1, 2, 3, 5] [.agg (NV (fv r1)), .agg (NV (fv r1)), .agg (NV (fv r1)), .agg (NV (fv m2)), undef, .bool (sqB t), undef, undef] #[false, false, false, false, true, false, false, false] #[true, true, true, true, true, true, false, false] #[true, true, true, true, true, false, false, false] 2 (fun act _ => (((((act.put (some 24) (.agg (NV (fv r1)))).put (some 25) (.agg (NV (fv r1)))).put (some 26) (.agg (NV (fv r1)))).put (some 27) (.agg (NV (fv m2)))).put (some 29) (.bool (sqB t)))) (fun act _ => ((((act.put (some 24) (.agg (NV (fv r1)))).put (some 25) (.agg (NV (fv r1)))).put (some 26) (.agg (NV (fv r1)))).put (some 27) (.agg (NV (fv m2))))) (by kernel_rfl) (by kernel_rfl) (by kernel_rfl) (by kernel_rfl) (by kernel_rfl) (by kernel_rfl) (fun β => by kernel_rfl) (fun β => by kernel_rfl) ⟨fun β w1 hb => givesAt_of ({ dst := some 24, op := Op.load 43 (Operand.tmp 5), type := 43, pos := "sign.go:30", after := #[], guard := none }) (by kernel_rfl) (gives_load43 (.tmp 5) rfl (b5) (fv r1) (by kernel_rfl) (kept_obj (HD.out.mid []) hb)), fun β w1 hb => givesAt_of ({ dst := some 25, op := Op.load 43 (Operand.tmp 5), type := 43, pos := "sign.go:30", after := #[], guard := none }) (by kernel_rfl) (gives_load43 (.tmp 5) rfl (b5) (fv r1) (by kernel_rfl) (kept_obj (HD.out.mid []) hb)), fun β w1 hb => givesAt_of ({ dst := some 26, op := Op.load 43 (Operand.tmp 5), type := 43, pos := "sign.go:30", after := #[], guard := none }) (by kernel_rfl) (gives_load43 (.tmp 5) rfl (b5) (fv r1) (by kernel_rfl) (kept_obj (HD.out.mid []) hb)), fun β w1 hb => givesAt_of ({ dst := some 27, op := Op.call { callee := Callee.value (Operand.func 36), args := #[Operand.tmp 25, Operand.tmp 26], argTypes := #[43, 43] }, type := 43, pos := "sign.go:30", after := #[{ on := 1, ground := Ground.data }, { on := 2, ground := Ground.data }], guard := none }) (by kernel_rfl) (gives_call rfl ent36 #[.agg (NV (fv r1)), .agg (NV (fv r1))] (by kernel_rfl) (times_e r1 r1 m2 HM2 _)), fun β w1 hb => givesAt_of ({ dst := some 29, op := Op.binOp BinOp.eql 43 (Operand.tmp 27) (Operand.tmp 28) 43, type := 4, pos := "sign.go:30", after := #[{ on := 3, ground := Ground.data }, { on := 4, ground := Ground.data }, { on := 6, ground := Ground.gcOnly Departure.lateStores }], guard := none }) (by kernel_rfl) (gives_eqf (.tmp 27) (.tmp 28) _ rfl m2 t (by kernel_rfl) (by kernel_rfl) (sqB t) HE.out), trivial⟩ (fun β => by kernel_rfl) (fun w1 hb => ⟨kept_obj (HD.out.mid [_, _, _]) hb, trivial⟩) (fun β W hB hL => ?_) (fun fin β W hB hL => ?_)
      rotate_left
      · refine wpAnyH_take (i := 5) (oi := { dst := some 29, op := Op.binOp BinOp.eql 43 (Operand.tmp 27) (Operand.tmp 28) 43, type := 4, pos := "sign.go:30", after := #[{ on := 3, ground := Ground.data }, { on := 4, ground := Ground.data }, { on := 6, ground := Ground.gcOnly Departure.lateStores }], guard := none }) (v := .bool (sqB t)) rfl (by kernel_rfl) (by kernel_rfl) (by kernel_rfl) (fun _ _ _ h => h) (y_eqf rfl (.tmp 27) (.tmp 28) _ rfl m2 t (by kernel_rfl) (by kernel_rfl) (sqB t) HE.out) ⟨kept_obj (HD.out.mid [_, _, _]) hB, trivial⟩ ?_
        exact fin β W hB hL
      simp only [Act.put, List.setIfInBounds_toArray, List.set_cons_zero, List.set_cons_succ]
      refine store_any (i := 6) (by kernel_rfl) ({ dst := none, op := Op.store 43 (Operand.tmp 2) (Operand.tmp 24), type := 0, pos := "sign.go:30", after := #[{ on := 0, ground := Ground.data }, { on := 3, ground := Ground.chain }, { on := 0, ground := Ground.phase }, { on := 1, ground := Ground.textOnly Departure.lateStores }, { on := 2, ground := Ground.textOnly Departure.lateStores }, { on := 3, ground := Ground.textOnly Departure.lateStoresUnsure }, { on := 4, ground := Ground.textOnly Departure.lateStores }, { on := 5, ground := Ground.textOnly Departure.lateStores }], guard := none }) (by kernel_rfl) rfl rfl (.tmp 2) (.tmp 24) rfl (w.heap.size + 1) (fv r1) (by kernel_rfl) (by kernel_rfl) [_, _] (HD.out.call hB) (fun W2 H2 => ⟨⟨H2.mid [_, _, _], trivial⟩, ?_⟩)
      refine wpAnyH_take (i := 7) (oi := { dst := some 3, op := Op.assign (Operand.tmp 29), type := 4, pos := "sign.go:30", after := #[{ on := 5, ground := Ground.data }, { on := 6, ground := Ground.chain }, { on := 0, ground := Ground.phase }, { on := 1, ground := Ground.phase }, { on := 2, ground := Ground.phase }, { on := 3, ground := Ground.phase }, { on := 4, ground := Ground.phase }, { on := 5, ground := Ground.phase }, { on := 6, ground := Ground.phase }], guard := none }) (v := .bool (sqB t)) rfl (by kernel_rfl) (by kernel_rfl) (by kernel_rfl) (fun _ _ _ h => h) (Or.inl ⟨rfl, fun v hv => rfl⟩) ⟨H2.mid [_, _, _], trivial⟩ ?_
      simp only [Act.put, List.setIfInBounds_toArray, List.set_cons_zero, List.set_cons_succ]
      refine wpAnyH_end (by kernel_rfl) ?_
      have H3 := hid H2
      clear HD hH0 H2 hB hL
      go_wp2_with fail
      exact ret_nb (p := 2) (q := 3) rfl rfl rfl (H3.out.mid [_, _]) rfl ⟨by rw [HV.out]; rfl, H3.out.below⟩
    · have HB := hid hb
      obtain ⟨r2, h2⟩ : ∃ z, z = 0 - r1 := ⟨_, rfl⟩
      have HR2 := hid h2
      obtain ⟨m2, hm2⟩ : ∃ z, z = r2 * r2 := ⟨_, rfl⟩
      have HM2 := hid hm2
      have HE : Hid (sqB t = decide (m2 = t)) := hid (by unfold sqB; rw [ER, hm2, h2, sq_neg])
      have HV : Hid (rootV t = r2) := hid (by unfold rootV; rw [ER, hb, h2]; exact if_pos rfl)
      clear hb ER hq h0 hm0 hm2 h1 h2
      go_enter Tryd.func60, Tryd.ntmps60
      go_wp2_with (first | (refine build_n rfl _ rfl (q8 : Int) _ (by kernel_rfl) built_q8 ?_) | (refine store_n rfl _ _ rfl (w.heap.size + 1 + 1) (q8 : Int) rfl rfl [] (H4.out) ?_; intro w1 G; clear H4) | (refine load_n rfl _ rfl (w.heap.size) _ rfl (G.out.mid [_, _]) ?_) | (refine load_n rfl _ rfl (w.heap.size + 1 + 1) _ rfl (G.out.mid []) ?_) | (go_at_call 54; (with_reducible refine (power_q8 t r0 HR0 _).mono ?_); rintro e w2 ⟨rfl, hb⟩; have G2 := hid (G.out.call hb).zero; clear G hb) | (refine store_n rfl _ _ rfl w2.heap.size (fv r0) rfl rfl [] G2.out ?_; intro w3 H; clear G2))
      generalize w2.heap.size = b5 at *
      refine region_free [0, 1, 2, 3, 4] [] [0, 1, 2, 3, 4] [.agg (NV (fv r0)), .agg (NV (fv r0)), .agg (NV (fv m0)), .agg (NV (fv t)), .bool true] #[true, true, true, true, true] 0 (fun act _ => (((((act.put (some 10) (.agg (NV (fv r0)))).put (some 11) (.agg (NV (fv r0)))).put (some 12) (.agg (NV (fv m0)))).put (some 13) (.agg (NV (fv t)))).put (some 14) (.bool true))) (by kernel_rfl) (by kernel_rfl) (by kernel_rfl) (by kernel_rfl) (by kernel_rfl) (fun β => by kernel_rfl) ⟨fun β w1 hb => givesAt_of ({ dst := some 10, op := Op.load 43 (Operand.tmp 5), type := 43, pos := "sign.go:24", after := #[], guard := none }) (by kernel_rfl) (gives_load43 (.tmp 5) rfl (b5) (fv r0) (by kernel_rfl) (kept_obj (H.out.mid []) hb)), fun β w1 hb => givesAt_of ({ dst := some 11, op := Op.load 43 (Operand.tmp 5), type := 43, pos := "sign.go:24", after := #[], guard := none }) (by kernel_rfl) (gives_load43 (.tmp 5) rfl (b5) (fv r0) (by kernel_rfl) (kept_obj (H.out.mid []) hb)), fun β w1 hb => givesAt_of ({ dst := some 12, op := Op.call { callee := Callee.value (Operand.func 36), args := #[Operand.tmp 10, Operand.tmp 11], argTypes := #[43, 43] }, type := 43, pos := "sign.go:24", after := #[{ on := 0, ground := Ground.data }, { on := 1, ground := Ground.data }], guard := none }) (by kernel_rfl) (gives_call rfl ent36 #[.agg (NV (fv r0)), .agg (NV (fv r0))] (by kernel_rfl) (times_e r0 r0 m0 HM0 _)), fun β w1 hb => givesAt_of ({ dst := some 13, op := Op.load 43 (Operand.tmp 1), type := 43, pos := "sign.go:24", after := #[], guard := none }) (by kernel_rfl) (gives_load43 (.tmp 1) rfl (w.heap.size) (fv t) (by kernel_rfl) (kept_obj (H.out.mid [_, _, _]) hb)), fun β w1 hb => givesAt_of ({ dst := some 14, op := Op.binOp BinOp.neq 43 (Operand.tmp 12) (Operand.tmp 13) 43, type := 4, pos := "sign.go:24", after := #[{ on := 2, ground := Ground.data }, { on := 3, ground := Ground.data }], guard := none }) (by kernel_rfl) (gives_nef (.tmp 12) (.tmp 13) _ rfl m0 t (by kernel_rfl) (by kernel_rfl) true (by rw [D.out]; rfl)), trivial⟩ (fun β W hB hL => ?_)
      refine wpAnyH_end (by kernel_rfl) ?_
      simp only [Act.put, List.setIfInBounds_toArray, List.set_cons_zero, List.set_cons_succ]
      replace H := hid (H.out.call hB)
      clear hB hL
      go_wp2_with fail
      refine region_free [0, 1, 2, 3, 4] [] [0, 1, 2, 3, 4] [.agg (NV (fv r0)), .agg (NV (fv 2)), .agg (NV (q4 : Int)), .agg (NV (fv rI)), .agg (NV (fv r1)), undef] #[true, true, true, true, true, false] 1 (fun act _ => (((((act.put (some 15) (.agg (NV (fv r0)))).put (some 16) (.agg (NV (fv 2)))).put (some 17) (.agg (NV (q4 : Int)))).put (some 18) (.agg (NV (fv rI)))).put (some 19) (.agg (NV (fv r1))))) (by kernel_rfl) (by kernel_rfl) (by kernel_rfl) (by kernel_rfl) (by kernel_rfl) (fun β => by kernel_rfl) ⟨fun β w1 hb => givesAt_of ({ dst := some 15, op := Op.load 43 (Operand.tmp 5), type := 43, pos := "sign.go:25", after := #[], guard := none }) (by kernel_rfl) (gives_load43 (.tmp 5) rfl (b5) (fv r0) (by kernel_rfl) (kept_obj (H.out.mid []) hb)), fun β w1 hb => givesAt_of ({ dst := some 16, op := Op.call { callee := Callee.value (Operand.func 31), args := #[Operand.const (Value.int IntKind.u64 2)], argTypes := #[41] }, type := 43, pos := "sign.go:25", after := #[], guard := none }) (by kernel_rfl) (gives_call rfl ent31 #[.int .u64 2] (by kernel_rfl) (s_fv 2 2 (by decide) (by decide) cTwo _)), fun β w1 hb => givesAt_of ({ dst := some 17, op := Op.build 43 #[(0, Operand.const (Value.int IntKind.u64 4294967291)), (1, Operand.const (Value.int IntKind.u64 4294967295)), (2, Operand.const (Value.int IntKind.u64 4294967295)), (3, Operand.const (Value.int IntKind.u64 4294967295)), (4, Operand.const (Value.int IntKind.u64 4294967295)), (5, Operand.const (Value.int IntKind.u64 4294967295)), (6, Operand.const (Value.int IntKind.u64 4294967295)), (7, Operand.const (Value.int IntKind.u64 536870911))], type := 43, pos := "sign.go:25", after := #[], guard := none }) (by kernel_rfl) (gives_build43 _ rfl (q4 : Int) _ (by kernel_rfl) built_q4), fun β w1 hb => givesAt_of ({ dst := some 18, op := Op.call { callee := Callee.value (Operand.func 54), args := #[Operand.tmp 16, Operand.tmp 17], argTypes := #[43, 43] }, type := 43, pos := "sign.go:25", after := #[{ on := 1, ground := Ground.data }, { on := 2, ground := Ground.data }, { on := 1, ground := Ground.chain }], guard := none }) (by kernel_rfl) (gives_call rfl ent54 #[.agg (NV (fv 2)), .agg (NV (q4 : Int))] (by kernel_rfl) (power_q4 _)), fun β w1 hb => givesAt_of ({ dst := some 19, op := Op.call { callee := Callee.value (Operand.func 36), args := #[Operand.tmp 15, Operand.tmp 18], argTypes := #[43, 43] }, type := 43, pos := "sign.go:25", after := #[{ on := 0, ground := Ground.data }, { on := 3, ground := Ground.data }, { on := 3, ground := Ground.chain }], guard := none }) (by kernel_rfl) (gives_call rfl ent36 #[.agg (NV (fv r0)), .agg (NV (fv rI))] (by kernel_rfl) (times_e r0 rI r1 HR1 _)), trivial⟩ (fun β W hB hL => ?_)
      simp only [Act.put, List.setIfInBounds_toArray, List.set_cons_zero, List.set_cons_succ]
      refine wpAnyH_store (i := 5) (by kernel_rfl) ({ dst := none, op := Op.store 43 (Operand.tmp 5) (Operand.tmp 19), type := 0, pos := "sign.go:25", after := #[{ on := 4, ground := Ground.data }, { on := 4, ground := Ground.chain }, { on := 0, ground := Ground.phase }, { on := 1, ground := Ground.phase }, { on := 2, ground := Ground.phase }, { on := 3, ground := Ground.phase }, { on := 4, ground := Ground.phase }], guard := none }) (by kernel_rfl) rfl rfl (.tmp 5) (.tmp 19) rfl (b5) (fv r1) (by kernel_rfl) (by kernel_rfl) [] (H.out.call hB) (fun W2 H2 => ?_)
      refine wpAnyH_end (by kernel_rfl) ?_
      replace H := hid H2
      clear hB hL H2
      go_wp2_with (first | (refine load_n rfl _ rfl b5 _ rfl (H.out.mid []) ?_) | (go_at_call 32; (with_reducible refine (bit0 (fv r1) true HB _).mono ?_); rintro e w4 ⟨rfl, hb⟩; replace H := hid (H.out.call hb); clear hb) | (go_at_call 61; (with_reducible refine (opposite_e r1 r2 HR2 _).mono ?_); rintro e w5 ⟨rfl, hb⟩; replace H := hid (H.out.call hb); clear hb) | (refine store_n rfl _ _ rfl b5 (fv r2) rfl rfl [] H.out ?_; intro w6 G6; replace H := G6; clear G6))
      have HD := hid H.out.drew
      clear H
      refine wp_region_held_drew (S := fun v => v.heap[w.heap.size]? = some (nob (fv t)) ∧ True) (by kernel_rfl) ⟨HD.out.mid [_, _, _], trivial⟩ (fun hH0 => ?_)
      refine wpAnyH_take (i := 4) (oi := { dst := some 28, op := Op.load 43 (Operand.tmp 1), type := 43, pos := "sign.go:30", after := #[{ on := 6, ground := Ground.gcOnly Departure.lateStores }], guard := none }) (v := .agg (NV (fv t))) rfl (by kernel_rfl) (by kernel_rfl) (by kernel_rfl) (fun _ _ _ h => h) (y_load_n rfl (.tmp 1) rfl (w.heap.size) (fv t) rfl (fun v hv => hv.1)) hH0 ?_
      simp only [Act.put, List.setIfInBounds_toArray, List.set_cons_zero, List.set_cons_succ]
      refine free_t 5 [0, 1, 2, 3, 5] [] [0, 1, 2, 3, 5] [.agg (NV (fv r2)), .agg (NV (fv r2)), .agg (NV (fv r2)), .agg (NV (fv m2)), undef, .bool (sqB t), undef, undef] #[false, false, false, false, true, false, false, false] #[true, true, true, true, true, true, false, false] #[true, true, true, true, true, false, false, false] 2 (fun act _ => (((((act.put (some 24) (.agg (NV (fv r2)))).put (some 25) (.agg (NV (fv r2)))).put (some 26) (.agg (NV (fv r2)))).put (some 27) (.agg (NV (fv m2)))).put (some 29) (.bool (sqB t)))) (fun act _ => ((((act.put (some 24) (.agg (NV (fv r2)))).put (some 25) (.agg (NV (fv r2)))).put (some 26) (.agg (NV (fv r2)))).put (some 27) (.agg (NV (fv m2))))) (by kernel_rfl) (by kernel_rfl) (by kernel_rfl) (by kernel_rfl) (by kernel_rfl) (by kernel_rfl) (fun β => by kernel_rfl) (fun β => by kernel_rfl) ⟨fun β w1 hb => givesAt_of ({ dst := some 24, op := Op.load 43 (Operand.tmp 5), type := 43, pos := "sign.go:30", after := #[], guard := none }) (by kernel_rfl) (gives_load43 (.tmp 5) rfl (b5) (fv r2) (by kernel_rfl) (kept_obj (HD.out.mid []) hb)), fun β w1 hb => givesAt_of ({ dst := some 25, op := Op.load 43 (Operand.tmp 5), type := 43, pos := "sign.go:30", after := #[], guard := none }) (by kernel_rfl) (gives_load43 (.tmp 5) rfl (b5) (fv r2) (by kernel_rfl) (kept_obj (HD.out.mid []) hb)), fun β w1 hb => givesAt_of ({ dst := some 26, op := Op.load 43 (Operand.tmp 5), type := 43, pos := "sign.go:30", after := #[], guard := none }) (by kernel_rfl) (gives_load43 (.tmp 5) rfl (b5) (fv r2) (by kernel_rfl) (kept_obj (HD.out.mid []) hb)), fun β w1 hb => givesAt_of ({ dst := some 27, op := Op.call { callee := Callee.value (Operand.func 36), args := #[Operand.tmp 25, Operand.tmp 26], argTypes := #[43, 43] }, type := 43, pos := "sign.go:30", after := #[{ on := 1, ground := Ground.data }, { on := 2, ground := Ground.data }], guard := none }) (by kernel_rfl) (gives_call rfl ent36 #[.agg (NV (fv r2)), .agg (NV (fv r2))] (by kernel_rfl) (times_e r2 r2 m2 HM2 _)), fun β w1 hb => givesAt_of ({ dst := some 29, op := Op.binOp BinOp.eql 43 (Operand.tmp 27) (Operand.tmp 28) 43, type := 4, pos := "sign.go:30", after := #[{ on := 3, ground := Ground.data }, { on := 4, ground := Ground.data }, { on := 6, ground := Ground.gcOnly Departure.lateStores }], guard := none }) (by kernel_rfl) (gives_eqf (.tmp 27) (.tmp 28) _ rfl m2 t (by kernel_rfl) (by kernel_rfl) (sqB t) HE.out), trivial⟩ (fun β => by kernel_rfl) (fun w1 hb => ⟨kept_obj (HD.out.mid [_, _, _]) hb, trivial⟩) (fun β W hB hL => ?_) (fun fin β W hB hL => ?_)
      rotate_left
      · refine wpAnyH_take (i := 5) (oi := { dst := some 29, op := Op.binOp BinOp.eql 43 (Operand.tmp 27) (Operand.tmp 28) 43, type := 4, pos := "sign.go:30", after := #[{ on := 3, ground := Ground.data }, { on := 4, ground := Ground.data }, { on := 6, ground := Ground.gcOnly Departure.lateStores }], guard := none }) (v := .bool (sqB t)) rfl (by kernel_rfl) (by kernel_rfl) (by kernel_rfl) (fun _ _ _ h => h) (y_eqf rfl (.tmp 27) (.tmp 28) _ rfl m2 t (by kernel_rfl) (by kernel_rfl) (sqB t) HE.out) ⟨kept_obj (HD.out.mid [_, _, _]) hB, trivial⟩ ?_
        exact fin β W hB hL
      simp only [Act.put, List.setIfInBounds_toArray, List.set_cons_zero, List.set_cons_succ]
      refine store_any (i := 6) (by kernel_rfl) ({ dst := none, op := Op.store 43 (Operand.tmp 2) (Operand.tmp 24), type := 0, pos := "sign.go:30", after := #[{ on := 0, ground := Ground.data }, { on := 3, ground := Ground.chain }, { on := 0, ground := Ground.phase }, { on := 1, ground := Ground.textOnly Departure.lateStores }, { on := 2, ground := Ground.textOnly Departure.lateStores }, { on := 3, ground := Ground.textOnly Departure.lateStoresUnsure }, { on := 4, ground := Ground.textOnly Departure.lateStores }, { on := 5, ground := Ground.textOnly Departure.lateStores }], guard := none }) (by kernel_rfl) rfl rfl (.tmp 2) (.tmp 24) rfl (w.heap.size + 1) (fv r2) (by kernel_rfl) (by kernel_rfl) [_, _] (HD.out.call hB) (fun W2 H2 => ⟨⟨H2.mid [_, _, _], trivial⟩, ?_⟩)
      refine wpAnyH_take (i := 7) (oi := { dst := some 3, op := Op.assign (Operand.tmp 29), type := 4, pos := "sign.go:30", after := #[{ on := 5, ground := Ground.data }, { on := 6, ground := Ground.chain }, { on := 0, ground := Ground.phase }, { on := 1, ground := Ground.phase }, { on := 2, ground := Ground.phase }, { on := 3, ground := Ground.phase }, { on := 4, ground := Ground.phase }, { on := 5, ground := Ground.phase }, { on := 6, ground := Ground.phase }], guard := none }) (v := .bool (sqB t)) rfl (by kernel_rfl) (by kernel_rfl) (by kernel_rfl) (fun _ _ _ h => h) (Or.inl ⟨rfl, fun v hv => rfl⟩) ⟨H2.mid [_, _, _], trivial⟩ ?_
      simp only [Act.put, List.setIfInBounds_toArray, List.set_cons_zero, List.set_cons_succ]
      refine wpAnyH_end (by kernel_rfl) ?_
      have H3 := hid H2
      clear HD hH0 H2 hB hL
      go_wp2_with fail
      exact ret_nb (p := 2) (q := 3) rfl rfl rfl (H3.out.mid [_, _]) rfl ⟨by rw [HV.out]; rfl, H3.out.below⟩
end Go.Proofs.YtflmkgecgijncaaDoor

namespace Go.Proofs.YtflmkgecgijncaaDoor
open Go.RowKit Go.Shelf Mth

/-- The cells of a point. -/
def QV (X Y Z : Int) : Array Value := (nvals 8 (dg X) ++ nvals 8 (dg Y) ++ nvals 8 (dg Z)).toArray
def qob (X Y Z : Int) : Obj := .cells (QV X Y Z) 67 (0, 0)
theorem QV_size (X Y Z : Int) : (QV X Y Z).size = 24 := by unfold QV; simp [nvals_len]
theorem QV_one (X Y Z : Int) : (QV X Y Z).all (·.oneCell') = true := by
  rw [Array.all_eq_true_iff_forall_mem]
  intro v hv
  have one : ∀ (f : Nat → Int), v ∈ nvals 8 f → v.oneCell' = true := fun f hf => by
    unfold nvals at hf
    obtain ⟨j, _, rfl⟩ := List.mem_map.1 hf; rfl
  unfold QV at hv
  have hv : v ∈ nvals 8 (dg X) ++ nvals 8 (dg Y) ++ nvals 8 (dg Z) := by simpa using hv
  rcases List.mem_append.1 hv with h | h
  · rcases List.mem_append.1 h with h | h
    · exact one _ h
    · exact one _ h
  · exact one _ h
theorem info67 : (Tryd.prog.info? 67).map (·.size) = some 24 := by kernel_rfl
theorem built_qv (X Y Z : Int) : Tryd.prog.built 67 [(0, .agg (NV X)), (1, .agg (NV Y)), (2, .agg (NV Z))] = some (QV X Y Z) := by kernel_rfl
theorem zero24 : Obj.cells #[.int .u64 0, .int .u64 0, .int .u64 0, .int .u64 0, .int .u64 0, .int .u64 0, .int .u64 0, .int .u64 0, .int .u64 0, .int .u64 0, .int .u64 0, .int .u64 0, .int .u64 0, .int .u64 0, .int .u64 0, .int .u64 0, .int .u64 0, .int .u64 0, .int .u64 0, .int .u64 0, .int .u64 0, .int .u64 0, .int .u64 0, .int .u64 0] 67 (0, 0) = qob 0 0 0 := by
  unfold qob; rw [show (QV 0 0 0) = #[.int .u64 0, .int .u64 0, .int .u64 0, .int .u64 0, .int .u64 0, .int .u64 0, .int .u64 0, .int .u64 0, .int .u64 0, .int .u64 0, .int .u64 0, .int .u64 0, .int .u64 0, .int .u64 0, .int .u64 0, .int .u64 0, .int .u64 0, .int .u64 0, .int .u64 0, .int .u64 0, .int .u64 0, .int .u64 0, .int .u64 0, .int .u64 0] by kernel_rfl]
theorem Sto.point {w0 W : World} {B : Nat} {Bs : List (Nat × Obj)} (h : Sto w0 W B Bs) : Sto w0 (W.alloc (.cells #[.int .u64 0, .int .u64 0, .int .u64 0, .int .u64 0, .int .u64 0, .int .u64 0, .int .u64 0, .int .u64 0, .int .u64 0, .int .u64 0, .int .u64 0, .int .u64 0, .int .u64 0, .int .u64 0, .int .u64 0, .int .u64 0, .int .u64 0, .int .u64 0, .int .u64 0, .int .u64 0, .int .u64 0, .int .u64 0, .int .u64 0, .int .u64 0] 67)) B ((W.heap.size, qob 0 0 0) :: Bs) := by
  have := h.alloc #[.int .u64 0, .int .u64 0, .int .u64 0, .int .u64 0, .int .u64 0, .int .u64 0, .int .u64 0, .int .u64 0, .int .u64 0, .int .u64 0, .int .u64 0, .int .u64 0, .int .u64 0, .int .u64 0, .int .u64 0, .int .u64 0, .int .u64 0, .int .u64 0, .int .u64 0, .int .u64 0, .int .u64 0, .int .u64 0, .int .u64 0, .int .u64 0] 67
  rw [zero24] at this; exact this
theorem gives_build67 {o : Oper} {ρ : Operand → Value} {w : World} (parts : Array (Nat × Operand)) (ho : o.op = .build 67 parts) (X Y Z : Int) (l : List (Nat × Value)) (hl : (parts.map fun (i, x) => (i, ρ x)).toList = l) (hb : Tryd.prog.built 67 l = some (QV X Y Z)) : Gives Tryd.prog o ρ w fun v w' => v = .agg (QV X Y Z) ∧ Below w.heap.size w w' := by
  refine gives_val ?_
  unfold execOp
  simp only [ho, Sem.run_bind, run_build w 67 _ _ (by rw [hl]; exact hb), Result.andThen_ok]; rfl
theorem store_any67 {ops : Array Oper} {Q : Exit → Act → World → Prop} {S : World → Prop} {fuel i : Nat} {listed : Array Bool} {a : Act} {w : World} (hr : Region.ready .any ops listed = [i]) (o : Oper) (ho : ops[i]? = some o) (hg : o.guard = none) (hd : o.dst = none)
    (x y : Operand) (hop : o.op = .store 67 x y) (g : Nat) (X Y Z : Int) (hx : a.eval x = .pointer (some ⟨g, 0, none⟩)) (hy : a.eval y = .agg (QV X Y Z)) {w0 : World} {B : Nat} (l1 : List (Nat × Obj)) {X' Y' Z' : Int} {l2 : List (Nat × Obj)} (hS : Sto w0 w B (l1 ++ (g, qob X' Y' Z') :: l2))
    (h : ∀ w', Sto w0 w' B (l1 ++ (g, qob X Y Z) :: l2) → S w' ∧ wpAnyH Tryd.prog .any ops Q S fuel (listed.setIfInBounds i true) a w') : wpAnyH Tryd.prog .any ops Q S (fuel + 1) listed a w := by
  refine wpAnyH_all hr (by simp) ?_
  intro j hj
  obtain rfl : j = i := by simpa using hj
  unfold wpOp
  rw [ho]
  have hw : Region.wanted o (yielded ops a.tmps) = true := by unfold Region.wanted; rw [hg]
  simp only [hw, if_true]
  left
  refine wp_store_row 67 x y hop g _ hx hy 67 (QV X' Y' Z') (hS.mid l1) (by rw [info67, QV_size]) (by rw [QV_size, QV_size]) (QV_one X Y Z) ?_
  rw [hd]
  exact h _ (hS.row l1)
theorem ret_qb {fn : Func} {p q : Tmp} {g : Nat} {X Y Z : Int} {v : Value} {R : Ending → World → Prop} {a : Act} {w : World} (hr : fn.results = #[.cell p 67, .tmp q]) (hp : a.tmps.getD p undef = .pointer (some ⟨g, 0, none⟩)) (hq : a.tmps.getD q undef = v)
    (hg : w.heap[g]? = some (qob X Y Z)) (hd : a.defers = []) (hR : R (.returned (.tuple #[.agg (QV X Y Z), v])) w) : bodyPost Tryd.prog fn R .ret a w := by
  refine bodyPost_ret ?_ hd hR
  have hp' : a.tmps[p]?.getD undef = .pointer (some ⟨g, 0, none⟩) := by simpa using hp
  have hq' : a.tmps[q]?.getD undef = v := by simpa using hq
  simp [results, hr, hp', hq', asAddr, run_loadVar_row w g 67 67 (QV X Y Z) (0, 0) _ hg Tryd.underlying67 rfl (by rw [info67, QV_size])]

/-- What is under the root. -/
def under (y : Fp) : Fp := (y * y - 1) * Mth.iv ((0 - cA) * Mth.iv (cA + 1) * (y * y) + 1)
/-- The call returned a point, perhaps, and whether it is one. -/
def RetQ (w : World) (y : Fp) (e : Ending) (w' : World) : Prop := ∃ X Y Z, e = .returned (.tuple #[.agg (QV X Y Z), .bool (sqB (under y))]) ∧ Below w.heap.size w w'
theorem curve_e (d : Fp) (h : Hid (d = (0 - cA) * Mth.iv (cA + 1))) (w : World) : Calls Tryd.prog 59 #[] w (RetN w (fv d)) := by rw [h.out]; exact curve_any w

def Elem (b : Nat → Int) (y : Fp) : Prop := ∀ w, Calls Tryd.prog 29 #[av b] w (RetN w (fv y))
theorem Elem.at {b : Nat → Int} {y : Fp} (h : Elem b y) (w : World) : Calls Tryd.prog 29 #[av b] w (RetN w (fv y)) := h w
theorem elem_e {b : Nat → Int} {y : Fp} (hy : y = fp (unum b)) (hb : Byt b) : Hid (Elem b y) := hid (fun w => by rw [hy]; exact element_any b hb w)

set_option maxRecDepth 100000 in
set_option maxHeartbeats 8000000 in
theorem decoded_any (b : Nat → Int) (hb : Byt b) (w : World) : Calls Tryd.prog 48 #[av b] w (RetQ w (fp (unum b))) := by
  have HB := hid hb
  have b31 := hb 31
  clear hb
  have S0 := ((Sto.start w).arr b).point
  have e1 : (w.alloc (.cells (bvals b).toArray 22)).heap.size = w.heap.size + 1 := by simp
  rw [e1] at S0
  have H : Hid (Sto w _ w.heap.size [(w.heap.size + 1, qob 0 0 0), (w.heap.size, aob b)]) := hid S0
  clear S0 e1
  obtain ⟨y, hy⟩ : ∃ z, z = fp (unum b) := ⟨_, rfl⟩
  rw [← hy]
  have ELE := elem_e hy HB.out
  clear hy
  obtain ⟨yy, hyy⟩ : ∃ z, z = y * y := ⟨_, rfl⟩
  obtain ⟨u, hu⟩ : ∃ z, z = yy - 1 := ⟨_, rfl⟩
  obtain ⟨d, hd⟩ : ∃ z, z = (0 - cA) * Mth.iv (cA + 1) := ⟨_, rfl⟩
  obtain ⟨c1, hc1⟩ : ∃ z, z = d * yy := ⟨_, rfl⟩
  obtain ⟨v, hv⟩ : ∃ z, z = c1 + 1 := ⟨_, rfl⟩
  obtain ⟨vi, hvi⟩ : ∃ z, z = Mth.iv v := ⟨_, rfl⟩
  obtain ⟨t, ht⟩ : ∃ z, z = u * vi := ⟨_, rfl⟩
  have ET : under y = t := by unfold under; rw [ht, hvi, hv, hc1, hd, hu, hyy]
  have HT := hid ET
  clear ET
  replace hyy := hid hyy
  replace hu := hid hu
  replace hd := hid hd
  replace hc1 := hid hc1
  replace hv := hid hv
  replace hvi := hid hvi
  replace ht := hid ht
  unfold RetQ
  rw [HT.out]
  obtain ⟨B, hB0⟩ : ∃ B, B = b 31 := ⟨_, rfl⟩
  rw [← hB0] at b31
  have HB31 := hid hB0
  clear hB0
  unfold av
  go_enter Tryd.func48, Tryd.ntmps48
  go_wp2_with (first | (refine load_a rfl _ rfl (w.heap.size) b rfl (H.out.mid [_]) ?_) | (go_at_call 29; (with_reducible refine (Elem.at ELE.out _).mono ?_); rintro e w1 ⟨rfl, hb⟩; have G1 := hid (H.out.call hb).zero; clear H hb) | (refine store_n rfl _ _ rfl w1.heap.size (fv y) rfl rfl [] G1.out ?_; intro w2 G; clear G1) | (refine load_n rfl _ rfl w1.heap.size _ rfl (G.out.mid []) ?_) | (go_at_call 36; (with_reducible refine (times_e y y yy hyy _).mono ?_); rintro e w3 ⟨rfl, hb⟩; have G2 := hid (G.out.call hb).zero; clear G hb) | (refine store_n rfl _ _ rfl w3.heap.size (fv yy) rfl rfl [] G2.out ?_; intro w4 H; clear G2))
  generalize w1.heap.size = b4 at *
  generalize w3.heap.size = b5 at *
  refine region_free [0, 1, 2, 3, 4] [4] [0, 1, 2, 3] [.agg (NV (fv yy)), .agg (NV (fv 1)), .agg (NV pI), .agg (NV (fv u)), undef, undef] #[true, true, true, true, true, false] 1 (fun act β => (((((act.put (some 15) (.agg (NV (fv yy)))).put (some 16) (.agg (NV (fv 1)))).put (some 17) (.agg (NV pI))).put (some 18) (.agg (NV (fv u)))).put (some 6) (.pointer (some ⟨β 4, 0, none⟩)))) (by kernel_rfl) (by kernel_rfl) (by kernel_rfl) (by kernel_rfl) (by kernel_rfl) (fun β => by kernel_rfl) ⟨fun β w1 hb => givesAt_of ({ dst := some 15, op := Op.load 43 (Operand.tmp 5), type := 43, pos := "sign.go:37", after := #[], guard := none }) (by kernel_rfl) (gives_load43 (.tmp 5) rfl (b5) (fv yy) (by kernel_rfl) (kept_obj (H.out.mid []) hb)), fun β w1 hb => givesAt_of ({ dst := some 16, op := Op.call { callee := Callee.value (Operand.func 31), args := #[Operand.const (Value.int IntKind.u64 1)], argTypes := #[41] }, type := 43, pos := "sign.go:37", after := #[], guard := none }) (by kernel_rfl) (gives_call rfl ent31 #[.int .u64 1] (by kernel_rfl) (s_fv 1 1 (by decide) (by decide) fv_one.symm _)), fun β w1 hb => givesAt_of ({ dst := some 17, op := Op.call { callee := Callee.value (Operand.func 30), args := #[], argTypes := #[] }, type := 43, pos := "sign.go:37", after := #[{ on := 1, ground := Ground.chain }], guard := none }) (by kernel_rfl) (gives_call rfl ent30 #[] (by kernel_rfl) (prime_any _)), fun β w1 hb => givesAt_of ({ dst := some 18, op := Op.call { callee := Callee.value (Operand.func 35), args := #[Operand.tmp 15, Operand.tmp 16, Operand.tmp 17], argTypes := #[43, 43, 43] }, type := 43, pos := "sign.go:37", after := #[{ on := 0, ground := Ground.data }, { on := 1, ground := Ground.data }, { on := 2, ground := Ground.data }, { on := 2, ground := Ground.chain }], guard := none }) (by kernel_rfl) (gives_call rfl ent35 #[.agg (NV (fv yy)), .agg (NV (fv 1)), .agg (NV pI)] (by kernel_rfl) (minus_e yy 1 u hu _)), trivial⟩ (fun β W hB hL => ?_)
  simp only [Act.put, List.setIfInBounds_toArray, List.set_cons_zero, List.set_cons_succ]
  have H1 := hL.sto H.out hB (by decide) (by decide)
  simp only [List.map_cons, List.map_nil, List.cons_append, List.nil_append] at H1
  generalize β 4 = b6 at *
  refine wpAnyH_store (i := 5) (by kernel_rfl) ({ dst := none, op := Op.store 43 (Operand.tmp 6) (Operand.tmp 18), type := 0, pos := "sign.go:37", after := #[{ on := 4, ground := Ground.data }, { on := 3, ground := Ground.data }, { on := 3, ground := Ground.chain }, { on := 0, ground := Ground.phase }, { on := 1, ground := Ground.phase }, { on := 2, ground := Ground.phase }, { on := 3, ground := Ground.phase }, { on := 4, ground := Ground.phase }], guard := none }) (by kernel_rfl) rfl rfl (.tmp 6) (.tmp 18) rfl (b6) (fv u) (by kernel_rfl) (by kernel_rfl) [] (H1) (fun W2 H2 => ?_)
  refine wpAnyH_end (by kernel_rfl) ?_
  replace H := hid H2
  clear hB hL H1 H2
  go_wp2_with fail
  refine region_free [0, 1, 2, 3, 4, 5, 6] [6] [0, 1, 2, 3, 4, 5] [.agg (NV (fv d)), .agg (NV (fv yy)), .agg (NV (fv c1)), .agg (NV (fv 1)), .agg (NV pI), .agg (NV (fv v)), undef, undef] #[true, true, true, true, true, true, true, false] 1 (fun act β => (((((((act.put (some 19) (.agg (NV (fv d)))).put (some 20) (.agg (NV (fv yy)))).put (some 21) (.agg (NV (fv c1)))).put (some 22) (.agg (NV (fv 1)))).put (some 23) (.agg (NV pI))).put (some 24) (.agg (NV (fv v)))).put (some 7) (.pointer (some ⟨β 6, 0, none⟩)))) (by kernel_rfl) (by kernel_rfl) (by kernel_rfl) (by kernel_rfl) (by kernel_rfl) (fun β => by kernel_rfl) ⟨fun β w1 hb => givesAt_of ({ dst := some 19, op := Op.call { callee := Callee.value (Operand.func 59), args := #[], argTypes := #[] }, type := 43, pos := "sign.go:38", after := #[], guard := none }) (by kernel_rfl) (gives_call rfl ent59 #[] (by kernel_rfl) (curve_e d hd _)), fun β w1 hb => givesAt_of ({ dst := some 20, op := Op.load 43 (Operand.tmp 5), type := 43, pos := "sign.go:38", after := #[], guard := none }) (by kernel_rfl) (gives_load43 (.tmp 5) rfl (b5) (fv yy) (by kernel_rfl) (kept_obj (H.out.mid [_]) hb)), fun β w1 hb => givesAt_of ({ dst := some 21, op := Op.call { callee := Callee.value (Operand.func 36), args := #[Operand.tmp 19, Operand.tmp 20], argTypes := #[43, 43] }, type := 43, pos := "sign.go:38", after := #[{ on := 0, ground := Ground.data }, { on := 1, ground := Ground.data }, { on := 0, ground := Ground.chain }], guard := none }) (by kernel_rfl) (gives_call rfl ent36 #[.agg (NV (fv d)), .agg (NV (fv yy))] (by kernel_rfl) (times_e d yy c1 hc1 _)), fun β w1 hb => givesAt_of ({ dst := some 22, op := Op.call { callee := Callee.value (Operand.func 31), args := #[Operand.const (Value.int IntKind.u64 1)], argTypes := #[41] }, type := 43, pos := "sign.go:38", after := #[{ on := 2, ground := Ground.chain }], guard := none }) (by kernel_rfl) (gives_call rfl ent31 #[.int .u64 1] (by kernel_rfl) (s_fv 1 1 (by decide) (by decide) fv_one.symm _)), fun β w1 hb => givesAt_of ({ dst := some 23, op := Op.call { callee := Callee.value (Operand.func 30), args := #[], argTypes := #[] }, type := 43, pos := "sign.go:38", after := #[{ on := 3, ground := Ground.chain }], guard := none }) (by kernel_rfl) (gives_call rfl ent30 #[] (by kernel_rfl) (prime_any _)), fun β w1 hb => givesAt_of ({ dst := some 24, op := Op.call { callee := Callee.value (Operand.func 34), args := #[Operand.tmp 21, Operand.tmp 22, Operand.tmp 23], argTypes := #[43, 43, 43] }, type := 43, pos := "sign.go:38", after := #[{ on := 2, ground := Ground.data }, { on := 3, ground := Ground.data }, { on := 4, ground := Ground.data }, { on := 4, ground := Ground.chain }], guard := none }) (by kernel_rfl) (gives_call rfl ent34 #[.agg (NV (fv c1)), .agg (NV (fv 1)), .agg (NV pI)] (by kernel_rfl) (plus_e c1 1 v hv _)), trivial⟩ (fun β W hB hL => ?_)
  simp only [Act.put, List.setIfInBounds_toArray, List.set_cons_zero, List.set_cons_succ]
  have H1 := hL.sto H.out hB (by decide) (by decide)
  simp only [List.map_cons, List.map_nil, List.cons_append, List.nil_append] at H1
  generalize β 6 = b7 at *
  refine wpAnyH_store (i := 7) (by kernel_rfl) ({ dst := none, op := Op.store 43 (Operand.tmp 7) (Operand.tmp 24), type := 0, pos := "sign.go:38", after := #[{ on := 6, ground := Ground.data }, { on := 5, ground := Ground.data }, { on := 5, ground := Ground.chain }, { on := 0, ground := Ground.phase }, { on := 1, ground := Ground.phase }, { on := 2, ground := Ground.phase }, { on := 3, ground := Ground.phase }, { on := 4, ground := Ground.phase }, { on := 5, ground := Ground.phase }, { on := 6, ground := Ground.phase }], guard := none }) (by kernel_rfl) rfl rfl (.tmp 7) (.tmp 24) rfl (b7) (fv v) (by kernel_rfl) (by kernel_rfl) [] (H1) (fun W2 H2 => ?_)
  refine wpAnyH_end (by kernel_rfl) ?_
  replace H := hid H2
  clear hB hL H1 H2
  go_wp2_with fail
  have HD := hid H.out.drew
  clear H
  refine wp_region_held_drew (S := fun _ => True) (by kernel_rfl) trivial (fun hH0 => ?_)
  refine free_t 7 [0, 1, 2, 3, 4, 5, 6, 7, 8] [8] [0, 1, 2, 3, 4, 5, 6, 7] [.agg (NV (fv u)), .agg (NV (fv v)), .agg (NV (fv vi)), .agg (NV (fv t)), (.tuple #[.agg (NV (fv (rootV t))), .bool (sqB t)]), (.tuple #[.agg (NV (fv (rootV t))), .bool (sqB t)]), .agg (NV (fv (rootV t))), .bool (sqB t), undef, undef, undef] #[false, false, false, false, false, false, false, false, false, false, false] #[true, true, true, true, true, true, true, true, true, false, false] #[true, true, true, true, true, true, true, false, true, false, false] 2 (fun act β => (((((((((act.put (some 26) (.agg (NV (fv u)))).put (some 27) (.agg (NV (fv v)))).put (some 28) (.agg (NV (fv vi)))).put (some 29) (.agg (NV (fv t)))).put (some 30) ((.tuple #[.agg (NV (fv (rootV t))), .bool (sqB t)]))).put (some 25) ((.tuple #[.agg (NV (fv (rootV t))), .bool (sqB t)]))).put (some 31) (.agg (NV (fv (rootV t))))).put (some 32) (.bool (sqB t))).put (some 8) (.pointer (some ⟨β 8, 0, none⟩)))) (fun act β => ((((((((act.put (some 26) (.agg (NV (fv u)))).put (some 27) (.agg (NV (fv v)))).put (some 28) (.agg (NV (fv vi)))).put (some 29) (.agg (NV (fv t)))).put (some 30) ((.tuple #[.agg (NV (fv (rootV t))), .bool (sqB t)]))).put (some 25) ((.tuple #[.agg (NV (fv (rootV t))), .bool (sqB t)]))).put (some 31) (.agg (NV (fv (rootV t))))).put (some 8) (.pointer (some ⟨β 8, 0, none⟩)))) (by kernel_rfl) (by kernel_rfl) (by kernel_rfl) (by kernel_rfl) (by kernel_rfl) (by kernel_rfl) (fun β => by kernel_rfl) (fun β => by kernel_rfl) ⟨fun β w1 hb => givesAt_of ({ dst := some 26, op := Op.load 43 (Operand.tmp 6), type := 43, pos := "sign.go:39", after := #[], guard := none }) (by kernel_rfl) (gives_load43 (.tmp 6) rfl (b6) (fv u) (by kernel_rfl) (kept_obj (HD.out.mid [_]) hb)), fun β w1 hb => givesAt_of ({ dst := some 27, op := Op.load 43 (Operand.tmp 7), type := 43, pos := "sign.go:39", after := #[], guard := none }) (by kernel_rfl) (gives_load43 (.tmp 7) rfl (b7) (fv v) (by kernel_rfl) (kept_obj (HD.out.mid []) hb)), fun β w1 hb => givesAt_of ({ dst := some 28, op := Op.call { callee := Callee.value (Operand.func 38), args := #[Operand.tmp 27], argTypes := #[43] }, type := 43, pos := "sign.go:39", after := #[{ on := 1, ground := Ground.data }], guard := none }) (by kernel_rfl) (gives_call rfl ent38 #[.agg (NV (fv v))] (by kernel_rfl) (inverse_e v vi hvi _)), fun β w1 hb => givesAt_of ({ dst := some 29, op := Op.call { callee := Callee.value (Operand.func 36), args := #[Operand.tmp 26, Operand.tmp 28], argTypes := #[43, 43] }, type := 43, pos := "sign.go:39", after := #[{ on := 0, ground := Ground.data }, { on := 2, ground := Ground.data }, { on := 2, ground := Ground.chain }], guard := none }) (by kernel_rfl) (gives_call rfl ent36 #[.agg (NV (fv u)), .agg (NV (fv vi))] (by kernel_rfl) (times_e u vi t ht _)), fun β w1 hb => givesAt_of ({ dst := some 30, op := Op.call { callee := Callee.value (Operand.func 60), args := #[Operand.tmp 29], argTypes := #[43] }, type := 86, pos := "sign.go:39", after := #[{ on := 3, ground := Ground.data }, { on := 3, ground := Ground.chain }], guard := none }) (by kernel_rfl) (gives_call rfl ent60 #[.agg (NV (fv t))] (by kernel_rfl) (root_any t _)), fun β w1 hb => givesAt_of ({ dst := some 25, op := Op.move (Operand.tmp 30), type := 86, pos := "sign.go:39", after := #[{ on := 4, ground := Ground.data }], guard := none }) (by kernel_rfl) (gives_val (by kernel_rfl)), fun β w1 hb => givesAt_of ({ dst := some 31, op := Op.extract (Operand.tmp 25) 0, type := 43, pos := "sign.go:39", after := #[{ on := 5, ground := Ground.data }], guard := none }) (by kernel_rfl) (gives_val (by kernel_rfl)), fun β w1 hb => givesAt_of ({ dst := some 32, op := Op.extract (Operand.tmp 25) 1, type := 4, pos := "sign.go:39", after := #[{ on := 5, ground := Ground.data }, { on := 9, ground := Ground.gcOnly Departure.lateStores }], guard := none }) (by kernel_rfl) (gives_val (by kernel_rfl)), trivial⟩ (fun β => by kernel_rfl) (fun w1 hb => trivial) (fun β W hB hL => ?_) (fun fin β W hB hL => ?_)
  rotate_left
  · refine wpAnyH_take (i := 7) (oi := { dst := some 32, op := Op.extract (Operand.tmp 25) 1, type := 4, pos := "sign.go:39", after := #[{ on := 5, ground := Ground.data }, { on := 9, ground := Ground.gcOnly Departure.lateStores }], guard := none }) (v := .bool (sqB t)) rfl (by kernel_rfl) (by kernel_rfl) (by kernel_rfl) (fun _ _ _ h => h) (Or.inl ⟨rfl, fun v hv => by kernel_rfl⟩) trivial ?_
    have fin2 := fin β W hB hL
    simp only [Act.put, List.setIfInBounds_toArray, List.set_cons_zero, List.set_cons_succ] at fin2 ⊢
    exact fin2
  simp only [Act.put, List.setIfInBounds_toArray, List.set_cons_zero, List.set_cons_succ]
  have H1 := hL.sto HD.out hB (by decide) (by decide)
  simp only [List.map_cons, List.map_nil, List.cons_append, List.nil_append] at H1
  rw [show mob _ 8 = nob 0 from by kernel_rfl] at H1
  generalize β 8 = b8 at *
  refine store_any (i := 9) (by kernel_rfl) ({ dst := none, op := Op.store 43 (Operand.tmp 8) (Operand.tmp 31), type := 0, pos := "sign.go:39", after := #[{ on := 8, ground := Ground.data }, { on := 6, ground := Ground.data }, { on := 4, ground := Ground.chain }, { on := 0, ground := Ground.phase }, { on := 1, ground := Ground.phase }, { on := 2, ground := Ground.phase }, { on := 3, ground := Ground.phase }, { on := 4, ground := Ground.phase }, { on := 5, ground := Ground.phase }, { on := 6, ground := Ground.phase }, { on := 7, ground := Ground.textOnly Departure.lateStores }, { on := 8, ground := Ground.phase }], guard := none }) (by kernel_rfl) rfl rfl (.tmp 8) (.tmp 31) rfl (b8) (fv (rootV t)) (by kernel_rfl) (by kernel_rfl) [] (H1) (fun W2 H2 => ⟨trivial, ?_⟩)
  refine wpAnyH_take (i := 10) (oi := { dst := some 9, op := Op.assign (Operand.tmp 32), type := 4, pos := "sign.go:39", after := #[{ on := 7, ground := Ground.data }, { on := 9, ground := Ground.chain }, { on := 0, ground := Ground.phase }, { on := 1, ground := Ground.phase }, { on := 2, ground := Ground.phase }, { on := 3, ground := Ground.phase }, { on := 4, ground := Ground.phase }, { on := 5, ground := Ground.phase }, { on := 6, ground := Ground.phase }, { on := 7, ground := Ground.phase }, { on := 8, ground := Ground.phase }, { on := 9, ground := Ground.phase }], guard := none }) (v := .bool (sqB t)) rfl (by kernel_rfl) (by kernel_rfl) (by kernel_rfl) (fun _ _ _ h => h) (Or.inl ⟨rfl, fun v hv => by kernel_rfl⟩) trivial ?_
  simp only [Act.put, List.setIfInBounds_toArray, List.set_cons_zero, List.set_cons_succ]
  refine wpAnyH_end (by kernel_rfl) ?_
  have H := hid H2
  clear HD hH0 H1 H2 hB hL
  have c31 := aob_cell (H.out.mid [_, _, _, _, _, _]) (show 31 < 32 by decide)
  rw [← HB31.out] at c31
  by_cases h128 : 128 ≤ B
  · obtain ⟨x2, hx2⟩ : ∃ z, z = 0 - rootV t := ⟨_, rfl⟩
    replace hx2 := hid hx2
    go_wp2_with (first | (refine load_n rfl _ rfl b8 _ rfl (H.out.mid []) ?_) | (go_at_call 61; (with_reducible refine (opposite_e (rootV t) x2 hx2 _).mono ?_); rintro e w6 ⟨rfl, hb⟩; replace H := hid (H.out.call hb); clear hb c31) | (refine store_n rfl _ _ rfl b8 (fv x2) rfl rfl [] H.out ?_; intro w7 H7; replace H := H7; clear H7))
    have HD := hid H.out.drew
    clear H
    refine wp_region_held_drew (S := fun _ => True) (by kernel_rfl) trivial (fun hH0 => ?_)
    refine wpAnyH_take (i := 4) (oi := { dst := some 42, op := Op.move (Operand.tmp 9), type := 4, pos := "sign.go:43", after := #[{ on := 5, ground := Ground.gcOnly Departure.lateStores }], guard := none }) (v := .bool (sqB t)) rfl (by kernel_rfl) (by kernel_rfl) (by kernel_rfl) (fun _ _ _ h => h) (Or.inl ⟨rfl, fun v hv => by kernel_rfl⟩) trivial ?_
    simp only [Act.put, List.setIfInBounds_toArray, List.set_cons_zero, List.set_cons_succ]
    refine free_s [0, 1, 2, 3] [] [0, 1, 2, 3] [.agg (NV (fv x2)), .agg (NV (fv y)), .agg (NV (fv 1)), .agg (QV (fv x2) (fv y) (fv 1)), undef, undef, undef] #[false, false, false, false, true, false, false] #[true, true, true, true, true, false, false] 2 (fun act _ => ((((act.put (some 38) (.agg (NV (fv x2)))).put (some 39) (.agg (NV (fv y)))).put (some 40) (.agg (NV (fv 1)))).put (some 41) (.agg (QV (fv x2) (fv y) (fv 1))))) (by kernel_rfl) (by kernel_rfl) (by kernel_rfl) (by kernel_rfl) (fun β => by kernel_rfl) ⟨fun β w1 hb => givesAt_of ({ dst := some 38, op := Op.load 43 (Operand.tmp 8), type := 43, pos := "sign.go:43", after := #[], guard := none }) (by kernel_rfl) (gives_load43 (.tmp 8) rfl (b8) (fv x2) (by kernel_rfl) (kept_obj (HD.out.mid []) hb)), fun β w1 hb => givesAt_of ({ dst := some 39, op := Op.load 43 (Operand.tmp 4), type := 43, pos := "sign.go:43", after := #[], guard := none }) (by kernel_rfl) (gives_load43 (.tmp 4) rfl (b4) (fv y) (by kernel_rfl) (kept_obj (HD.out.mid [_, _, _, _]) hb)), fun β w1 hb => givesAt_of ({ dst := some 40, op := Op.call { callee := Callee.value (Operand.func 31), args := #[Operand.const (Value.int IntKind.u64 1)], argTypes := #[41] }, type := 43, pos := "sign.go:43", after := #[], guard := none }) (by kernel_rfl) (gives_call rfl ent31 #[.int .u64 1] (by kernel_rfl) (s_fv 1 1 (by decide) (by decide) fv_one.symm _)), fun β w1 hb => givesAt_of ({ dst := some 41, op := Op.build 67 #[(0, Operand.tmp 38), (1, Operand.tmp 39), (2, Operand.tmp 40)], type := 67, pos := "sign.go:43", after := #[{ on := 0, ground := Ground.data }, { on := 1, ground := Ground.data }, { on := 2, ground := Ground.data }], guard := none }) (by kernel_rfl) (gives_build67 _ rfl (fv x2) (fv y) (fv 1) _ (by kernel_rfl) (built_qv _ _ _)), trivial⟩ (fun w1 hb => trivial) (fun β W hB hL => ?_)
    simp only [Act.put, List.setIfInBounds_toArray, List.set_cons_zero, List.set_cons_succ]
    refine store_any67 (i := 5) (by kernel_rfl) ({ dst := none, op := Op.store 67 (Operand.tmp 2) (Operand.tmp 41), type := 0, pos := "sign.go:43", after := #[{ on := 3, ground := Ground.data }, { on := 2, ground := Ground.chain }, { on := 0, ground := Ground.phase }, { on := 1, ground := Ground.phase }, { on := 2, ground := Ground.phase }, { on := 3, ground := Ground.phase }, { on := 4, ground := Ground.textOnly Departure.lateStores }], guard := none }) (by kernel_rfl) rfl rfl (.tmp 2) (.tmp 41) rfl (w.heap.size + 1) (fv x2) (fv y) (fv 1) (by kernel_rfl) (by kernel_rfl) [_, _, _, _, _] (HD.out.call hB) (fun W2 H2 => ⟨trivial, ?_⟩)
    refine wpAnyH_take (i := 6) (oi := { dst := some 3, op := Op.assign (Operand.tmp 42), type := 4, pos := "sign.go:43", after := #[{ on := 4, ground := Ground.data }, { on := 5, ground := Ground.chain }, { on := 0, ground := Ground.phase }, { on := 1, ground := Ground.phase }, { on := 2, ground := Ground.phase }, { on := 3, ground := Ground.phase }, { on := 4, ground := Ground.phase }, { on := 5, ground := Ground.phase }], guard := none }) (v := .bool (sqB t)) rfl (by kernel_rfl) (by kernel_rfl) (by kernel_rfl) (fun _ _ _ h => h) (Or.inl ⟨rfl, fun v hv => by kernel_rfl⟩) trivial ?_
    simp only [Act.put, List.setIfInBounds_toArray, List.set_cons_zero, List.set_cons_succ]
    refine wpAnyH_end (by kernel_rfl) ?_
    have H3 := hid H2
    clear HD hH0 H2 hB hL
    go_wp2_with fail
    exact ret_qb (p := 2) (q := 3) rfl rfl rfl (H3.out.mid [_, _, _, _, _]) rfl ⟨_, _, _, rfl, H3.out.below⟩
  · go_wp2_with fail
    clear c31
    have HD := hid H.out.drew
    clear H
    refine wp_region_held_drew (S := fun _ => True) (by kernel_rfl) trivial (fun hH0 => ?_)
    refine wpAnyH_take (i := 4) (oi := { dst := some 42, op := Op.move (Operand.tmp 9), type := 4, pos := "sign.go:43", after := #[{ on := 5, ground := Ground.gcOnly Departure.lateStores }], guard := none }) (v := .bool (sqB t)) rfl (by kernel_rfl) (by kernel_rfl) (by kernel_rfl) (fun _ _ _ h => h) (Or.inl ⟨rfl, fun v hv => by kernel_rfl⟩) trivial ?_
    simp only [Act.put, List.setIfInBounds_toArray, List.set_cons_zero, List.set_cons_succ]
    refine free_s [0, 1, 2, 3] [] [0, 1, 2, 3] [.agg (NV (fv (rootV t))), .agg (NV (fv y)), .agg (NV (fv 1)), .agg (QV (fv (rootV t)) (fv y) (fv 1)), undef, undef, undef] #[false, false, false, false, true, false, false] #[true, true, true, true, true, false, false] 2 (fun act _ => ((((act.put (some 38) (.agg (NV (fv (rootV t))))).put (some 39) (.agg (NV (fv y)))).put (some 40) (.agg (NV (fv 1)))).put (some 41) (.agg (QV (fv (rootV t)) (fv y) (fv 1))))) (by kernel_rfl) (by kernel_rfl) (by kernel_rfl) (by kernel_rfl) (fun β => by kernel_rfl) ⟨fun β w1 hb => givesAt_of ({ dst := some 38, op := Op.load 43 (Operand.tmp 8), type := 43, pos := "sign.go:43", after := #[], guard := none }) (by kernel_rfl) (gives_load43 (.tmp 8) rfl (b8) (fv (rootV t)) (by kernel_rfl) (kept_obj (HD.out.mid []) hb)), fun β w1 hb => givesAt_of ({ dst := some 39, op := Op.load 43 (Operand.tmp 4), type := 43, pos := "sign.go:43", after := #[], guard := none }) (by kernel_rfl) (gives_load43 (.tmp 4) rfl (b4) (fv y) (by kernel_rfl) (kept_obj (HD.out.mid [_, _, _, _]) hb)), fun β w1 hb => givesAt_of ({ dst := some 40, op := Op.call { callee := Callee.value (Operand.func 31), args := #[Operand.const (Value.int IntKind.u64 1)], argTypes := #[41] }, type := 43, pos := "sign.go:43", after := #[], guard := none }) (by kernel_rfl) (gives_call rfl ent31 #[.int .u64 1] (by kernel_rfl) (s_fv 1 1 (by decide) (by decide) fv_one.symm _)), fun β w1 hb => givesAt_of ({ dst := some 41, op := Op.build 67 #[(0, Operand.tmp 38), (1, Operand.tmp 39), (2, Operand.tmp 40)], type := 67, pos := "sign.go:43", after := #[{ on := 0, ground := Ground.data }, { on := 1, ground := Ground.data }, { on := 2, ground := Ground.data }], guard := none }) (by kernel_rfl) (gives_build67 _ rfl (fv (rootV t)) (fv y) (fv 1) _ (by kernel_rfl) (built_qv _ _ _)), trivial⟩ (fun w1 hb => trivial) (fun β W hB hL => ?_)
    simp only [Act.put, List.setIfInBounds_toArray, List.set_cons_zero, List.set_cons_succ]
    refine store_any67 (i := 5) (by kernel_rfl) ({ dst := none, op := Op.store 67 (Operand.tmp 2) (Operand.tmp 41), type := 0, pos := "sign.go:43", after := #[{ on := 3, ground := Ground.data }, { on := 2, ground := Ground.chain }, { on := 0, ground := Ground.phase }, { on := 1, ground := Ground.phase }, { on := 2, ground := Ground.phase }, { on := 3, ground := Ground.phase }, { on := 4, ground := Ground.textOnly Departure.lateStores }], guard := none }) (by kernel_rfl) rfl rfl (.tmp 2) (.tmp 41) rfl (w.heap.size + 1) (fv (rootV t)) (fv y) (fv 1) (by kernel_rfl) (by kernel_rfl) [_, _, _, _, _] (HD.out.call hB) (fun W2 H2 => ⟨trivial, ?_⟩)
    refine wpAnyH_take (i := 6) (oi := { dst := some 3, op := Op.assign (Operand.tmp 42), type := 4, pos := "sign.go:43", after := #[{ on := 4, ground := Ground.data }, { on := 5, ground := Ground.chain }, { on := 0, ground := Ground.phase }, { on := 1, ground := Ground.phase }, { on := 2, ground := Ground.phase }, { on := 3, ground := Ground.phase }, { on := 4, ground := Ground.phase }, { on := 5, ground := Ground.phase }], guard := none }) (v := .bool (sqB t)) rfl (by kernel_rfl) (by kernel_rfl) (by kernel_rfl) (fun _ _ _ h => h) (Or.inl ⟨rfl, fun v hv => by kernel_rfl⟩) trivial ?_
    simp only [Act.put, List.setIfInBounds_toArray, List.set_cons_zero, List.set_cons_succ]
    refine wpAnyH_end (by kernel_rfl) ?_
    have H3 := hid H2
    clear HD hH0 H2 hB hL
    go_wp2_with fail
    exact ret_qb (p := 2) (q := 3) rfl rfl rfl (H3.out.mid [_, _, _, _, _]) rfl ⟨_, _, _, rfl, H3.out.below⟩
end Go.Proofs.YtflmkgecgijncaaDoor
