/-
  spec.element, spec.clamped, spec.swapped. Printed by gen_elem.py.
-/
import Derived.Test.YtflmkgecgijncaaDoorS11
namespace Go.Proofs.YtflmkgecgijncaaDoor
open Go.RowKit Go.Shelf Mth

theorem lb_leN (x : Nat → Int) : ∀ (n k : Nat), 256 ^ k * leN x n k = lb x (k + n) - lb x k
  | 0, k => by show 256 ^ k * 0 = lb x k - lb x k; omega
  | n + 1, k => by
    have ih := lb_leN x n (k + 1)
    show 256 ^ k * (x k + 256 * leN x n (k + 1)) = _
    rw [show k + (n + 1) = k + 1 + n by omega]
    have e : lb x (k + 1) = lb x k + x k * 256 ^ k := rfl
    have e2 : (256 : Int) ^ (k + 1) = 256 ^ k * 256 := Int.pow_succ ..
    rw [e2] at ih
    generalize (256 : Int) ^ k = p at *
    grind
theorem lb_eq (x : Nat → Int) : lb x 32 = leN x 32 0 := by
  have := lb_leN x 32 0
  rw [Int.pow_zero, Int.one_mul] at this
  have z : lb x 0 = 0 := rfl
  rw [z] at this; simpa using this.symm

theorem lb_lt {x : Nat → Int} (h : Byt x) : ∀ n, 0 ≤ lb x n ∧ lb x n < 256 ^ n
  | 0 => ⟨Int.le_refl 0, by show (0 : Int) < 1; decide⟩
  | n + 1 => by
    obtain ⟨h0, h1⟩ := lb_lt h n
    have b := h n
    have hp : (0 : Int) < 256 ^ n := Int.pow_pos (by decide)
    show 0 ≤ lb x n + x n * 256 ^ n ∧ lb x n + x n * 256 ^ n < 256 ^ (n + 1)
    rw [Int.pow_succ]
    have a0 : 0 ≤ x n * 256 ^ n := Int.mul_nonneg b.1 (Int.le_of_lt hp)
    have a1 : x n * 256 ^ n ≤ 255 * 256 ^ n := Int.mul_le_mul_of_nonneg_right b.2 (Int.le_of_lt hp)
    exact ⟨by omega, by omega⟩
theorem lb_bp {x : Nat → Int} (h : Byt x) : 0 ≤ lb x 32 ∧ lb x 32 < bp 8 := by
  have := lb_lt h 32
  rw [bp_eight]; exact ⟨this.1, by have h2 := this.2; simpa using h2⟩

theorem lb_digit {x : Nat → Int} (h : Byt x) {j : Nat} : ∀ {n : Nat}, j < n → lb x n / 256 ^ j % 256 = x j
  | 0, hj => by omega
  | n + 1, hj => by
    have hp : (0 : Int) < 256 ^ j := Int.pow_pos (by decide)
    by_cases e : j = n
    · subst e
      show (lb x j + x j * 256 ^ j) / 256 ^ j % 256 = x j
      rw [Int.add_mul_ediv_right _ _ (Int.ne_of_gt hp), Int.ediv_eq_zero_of_lt (lb_lt h j).1 (lb_lt h j).2]
      have := h j; omega
    · have ih := lb_digit h (n := n) (j := j) (by omega)
      rw [← ih]
      show (lb x n + x n * 256 ^ n) / 256 ^ j % 256 = _
      obtain ⟨m, rfl⟩ : ∃ m, n = j + 1 + m := ⟨n - j - 1, by omega⟩
      have e : x (j + 1 + m) * 256 ^ (j + 1 + m) = 256 ^ j * (256 * (x (j + 1 + m) * 256 ^ m)) := by rw [Int.pow_add, Int.pow_succ]; grind
      rw [e, Int.add_mul_ediv_left _ _ (Int.ne_of_gt hp)]
      omega

theorem nbit_kb {f : Nat → Int} (hf : Byt f) {t : Nat} (ht : t < 256) : nbit (lb (cl f) 32) t = kb f t := by
  unfold nbit kb
  have h := lb_digit (cl_byt hf) (j := t / 8) (n := 32) (by omega)
  have e : (2 : Int) ^ t = 256 ^ (t / 8) * 2 ^ (t % 8) := by
    rw [show (256 : Int) = 2 ^ 8 by decide, ← Int.pow_mul, ← Int.pow_add]; congr 1; omega
  have hp : (0 : Int) < 256 ^ (t / 8) := Int.pow_pos (by decide)
  rw [e, ← Int.ediv_ediv_of_nonneg (Int.le_of_lt hp)]
  congr 1
  rw [← h]
  generalize lb (cl f) 32 / 256 ^ (t / 8) = z
  have hr : t % 8 = 0 ∨ t % 8 = 1 ∨ t % 8 = 2 ∨ t % 8 = 3 ∨ t % 8 = 4 ∨ t % 8 = 5 ∨ t % 8 = 6 ∨ t % 8 = 7 := by omega
  rcases hr with r | r | r | r | r | r | r | r <;> rw [r] <;> simp <;> omega

theorem bvals_set (f : Nat → Int) (i : Nat) (z : Int) : (bvals f).set i (.int .u8 z) = bvals (upd f i z) := by
  have := bvals_upd f i z
  rw [List.setIfInBounds_toArray] at this
  exact congrArg Array.toList this

theorem unum_top {g : Nat → Int} (hg : Byt g) : lb (upd g 31 (g 31 % 128)) 32 = unum g := by
  rw [lb_eq]
  unfold unum
  have b0 := hg 0
  have h31 := hg 31
  have e : ∀ z, leN (upd g 31 z) 32 0 = leN g 32 0 + (z - g 31) * 452312848583266388373324160190187140051835877600158453279131187530910662656 := by
    intro z
    simp only [leN, upd]
    simp
    omega
  rw [e]
  have hl : 0 ≤ leN g 32 0 - g 31 * 452312848583266388373324160190187140051835877600158453279131187530910662656 ∧ leN g 32 0 - g 31 * 452312848583266388373324160190187140051835877600158453279131187530910662656 < 452312848583266388373324160190187140051835877600158453279131187530910662656 := by
    have h2 := lb_lt hg 31
    have h3 : lb g 32 = lb g 31 + g 31 * 256 ^ 31 := rfl
    rw [lb_eq] at h3
    have p : (256 : Int) ^ 31 = 452312848583266388373324160190187140051835877600158453279131187530910662656 := by decide
    rw [p] at h2 h3
    omega
  omega

set_option maxRecDepth 100000 in
set_option maxHeartbeats 1000000 in
theorem element_any (g : Nat → Int) (hg : Byt g) (w : World) : Calls Tryd.prog 29 #[av g] w (RetN w (fv (fp (unum g)))) := by
  have HB := hid (hg.upd (i := 31) (z := g 31 % 128) (by have := hg 31; omega))
  have HV := hid (lb_bp HB.out)
  have E := hid (show (lb (upd g 31 (g 31 % 128)) 32 + 0 * bp 8) % pI = fv (fp (unum g)) by rw [unum_top hg, fv_fp]; simp)
  have d31 := hg 31
  clear hg
  have c31 : (bvals g)[31]? = some (.int .u8 (g 31)) := bvals_get g 31 (by decide)
  have u31 := bvals_set g 31 (g 31 % 128)
  generalize hz : g 31 = z at *
  have S0 := ((Sto.start w).arr (upd g 31 (z % 128))).zero
  have e1 : (w.alloc (.cells (bvals (upd g 31 (z % 128))).toArray 22)).heap.size = w.heap.size + 1 := by simp
  rw [e1] at S0
  have H : Hid (Sto w _ w.heap.size [(w.heap.size + 1, nob 0), (w.heap.size, aob (upd g 31 (z % 128)))]) := hid S0
  clear S0 e1
  have HZ := hid hz
  clear hz
  unfold av
  go_enter Tryd.func29, Tryd.ntmps29
  go_wp2_with (first
    | (refine load_a rfl _ rfl w.heap.size (upd g 31 (z % 128)) rfl (H.out.mid [_]) ?_)
    | (go_at_call 51; (with_reducible refine (whole_any (upd g 31 (z % 128)) HB.out _).mono ?_); rintro e w1 ⟨rfl, hb⟩; have H1 := hid (H.out.call hb); clear H hb)
    | (go_at_call 52; (with_reducible refine (folded_any _ 0 HV.out.1 HV.out.2 (by decide) (by decide) _).mono ?_); rintro e w2 ⟨rfl, hb⟩; have H2 := hid (H1.out.call hb); clear H1 hb; rw [E.out])
    | (refine store_n rfl _ _ rfl (w.heap.size + 1) (fv (fp (unum g))) rfl rfl [] H2.out ?_; intro w3 H3))
  exact ret_n (p := 2) rfl rfl (H3.out.mid []) rfl ⟨rfl, H3.out.below⟩

theorem andNot7 (x : Int) (h0 : 0 ≤ x) (h1 : x ≤ 255) : bits .andNot .u8 x 7 = x / 8 * 8 := by
  obtain ⟨x, rfl⟩ := Int.eq_ofNat_of_zero_le h0
  have k : ∀ n : Fin 256, bits .andNot .u8 ((n.val : Nat) : Int) 7 = ((n.val : Nat) : Int) / 8 * 8 := by decide +kernel
  exact k ⟨x, by omega⟩

theorem cl_upd (g : Nat → Int) : upd (upd g 0 (g 0 / 8 * 8)) 31 (g 31 % 64 + 64) = cl g := by
  funext j
  unfold cl upd
  by_cases h0 : j = 0
  · subst h0; simp
  · by_cases h1 : j = 31
    · subst h1; simp
    · simp [h0, h1]

set_option maxRecDepth 100000 in
set_option maxHeartbeats 1000000 in
theorem clamped_any (g : Nat → Int) (hg : Byt g) (w : World) : Calls Tryd.prog 28 #[av g] w (RetN w (lb (cl g) 32)) := by
  have HB := hid (cl_byt hg)
  have d31 := hg 31
  have d0 := hg 0
  have E := hid (cl_upd g)
  have a0 := andNot7 (g 0) d0.1 d0.2
  have a1 := or64 (g 31 % 128) (by omega) (by omega)
  have a2 : g 31 % 128 % 64 + 64 = g 31 % 64 + 64 := by omega
  rw [a2] at a1
  clear hg a2
  have c31 : (bvals (upd g 0 (g 0 / 8 * 8)))[31]? = some (.int .u8 (g 31)) := bvals_get _ 31 (by decide)
  have c0 : (bvals g)[0]? = some (.int .u8 (g 0)) := bvals_get g 0 (by decide)
  have u0 := bvals_set g 0 (g 0 / 8 * 8)
  have u31 := bvals_set (upd g 0 (g 0 / 8 * 8)) 31 (g 31 % 64 + 64)
  rw [E.out] at u31
  have S0 := ((Sto.start w).arr (cl g)).zero
  have e1 : (w.alloc (.cells (bvals (cl g)).toArray 22)).heap.size = w.heap.size + 1 := by simp
  rw [e1] at S0
  have H1 : Hid (Sto w _ w.heap.size [(w.heap.size + 1, nob 0), (w.heap.size, aob (cl g))]) := hid S0
  clear S0 e1
  generalize hz : g 31 = z at *
  generalize hy : g 0 = y at *
  have HZ := hid hz
  have HY := hid hy
  clear hz hy
  unfold av
  go_enter Tryd.func28, Tryd.ntmps28
  go_wp2_with (first
    | (refine load_a rfl _ rfl w.heap.size (cl g) rfl (H1.out.mid [_]) ?_)
    | (go_at_call 51; (with_reducible refine (whole_any (cl g) HB.out _).mono ?_); rintro e w1 ⟨rfl, hb⟩; have H2 := hid (H1.out.call hb); clear H1 hb)
    | (refine store_n rfl _ _ rfl (w.heap.size + 1) (lb (cl g) 32) rfl rfl [] H2.out ?_; intro w3 H3))
  exact ret_n (p := 2) rfl rfl (H3.out.mid []) rfl ⟨rfl, H3.out.below⟩

theorem ret_nn {fn : Func} {p q : Tmp} {g h : Nat} {V U : Int} {R : Ending → World → Prop} {a : Act} {w : World} (hr : fn.results = #[.cell p 43, .cell q 43]) (hp : a.tmps.getD p undef = .pointer (some ⟨g, 0, none⟩)) (hq : a.tmps.getD q undef = .pointer (some ⟨h, 0, none⟩))
    (hg : w.heap[g]? = some (nob V)) (hh : w.heap[h]? = some (nob U)) (hd : a.defers = []) (hR : R (.returned (.tuple #[.agg (NV V), .agg (NV U)])) w) : bodyPost Tryd.prog fn R .ret a w := by
  refine bodyPost_ret ?_ hd hR
  have hp' : a.tmps[p]?.getD undef = .pointer (some ⟨g, 0, none⟩) := by simpa using hp
  have hq' : a.tmps[q]?.getD undef = .pointer (some ⟨h, 0, none⟩) := by simpa using hq
  simp [results, hr, hp', hq', asAddr, run_loadVar_row w g 43 43 (NV V) (0, 0) _ hg Tryd.underlying43 rfl (by rw [info43, NV_size]), run_loadVar_row w h 43 43 (NV U) (0, 0) _ hh Tryd.underlying43 rfl (by rw [info43, NV_size])]

/-- The call returned two numbers. -/
def RetNN (w : World) (V U : Int) (e : Ending) (w' : World) : Prop := e = .returned (.tuple #[.agg (NV V), .agg (NV U)]) ∧ Below w.heap.size w w'

theorem four_nn (A B : Int) (w : World) : Hid (Sto w ((((w.alloc (.cells (NV A) 43)).alloc (.cells (NV B) 43)).alloc (.cells (List.replicate 8 (Value.int .u64 0)).toArray 43)).alloc (.cells (List.replicate 8 (Value.int .u64 0)).toArray 43)) w.heap.size [(w.heap.size + 1 + 1 + 1, nob 0), (w.heap.size + 1 + 1, nob 0), (w.heap.size + 1, nob B), (w.heap.size, nob A)]) := by
  have S0 := ((((Sto.start w).alloc (NV A) 43).alloc (NV B) 43).zero).zero
  have e1 : (w.alloc (.cells (NV A) 43)).heap.size = w.heap.size + 1 := by simp
  have e2 : ((w.alloc (.cells (NV A) 43)).alloc (.cells (NV B) 43)).heap.size = w.heap.size + 1 + 1 := by simp
  have e3 : (((w.alloc (.cells (NV A) 43)).alloc (.cells (NV B) 43)).alloc (.cells (List.replicate 8 (Value.int .u64 0)).toArray 43)).heap.size = w.heap.size + 1 + 1 + 1 := by simp
  rw [e1, e2, e3] at S0
  exact hid S0

set_option maxRecDepth 100000 in
set_option maxHeartbeats 1000000 in
theorem swapped_f (c : Bool) (a b : Fp) (w : World) : Calls Tryd.prog 33 #[.bool c, .agg (NV (fv a)), .agg (NV (fv b))] w (RetNN w (fv (fsel c a b)) (fv (fsel c b a))) := by
  have H := four_nn (fv a) (fv b) w
  cases c
  · change Calls Tryd.prog 33 _ w (RetNN w (fv a) (fv b))
    go_enter Tryd.func33, Tryd.ntmps33
    go_wp2_with fail
    have HD := hid H.out.drew
    refine wp_region_held_drew (S := fun v => v.heap[w.heap.size + 1]? = some (nob (fv b)) ∧ True) (by kernel_rfl) ⟨HD.out.mid [_, _], trivial⟩ (fun hH0 => ?_)
    refine wpAnyH_take (i := 1) (oi := { dst := some 12, op := Op.load 43 (Operand.tmp 5), type := 43, pos := "ladder.go:15", after := #[{ on := 2, ground := Ground.gcOnly Departure.lateStores }], guard := none }) (v := .agg (NV (fv b))) rfl (by kernel_rfl) (by kernel_rfl) (by kernel_rfl) (fun _ _ _ h => h) (y_load_n rfl (.tmp 5) rfl (w.heap.size + 1) (fv b) rfl (fun v hv => hv.1)) hH0 ?_
    simp only [Act.put, List.setIfInBounds_toArray, List.set_cons_zero, List.set_cons_succ]
    refine free_s [0] [] [0] [.agg (NV (fv a)), undef, undef, undef] #[false, true, false, false] #[true, true, false, false] 2 (fun act _ => (act.put (some 11) (.agg (NV (fv a))))) (by kernel_rfl) (by kernel_rfl) (by kernel_rfl) (by kernel_rfl) (fun β => by kernel_rfl) ⟨fun β w1 hb => givesAt_of ({ dst := some 11, op := Op.load 43 (Operand.tmp 4), type := 43, pos := "ladder.go:15", after := #[], guard := none }) (by kernel_rfl) (gives_load43 (.tmp 4) rfl (w.heap.size) (fv a) (by kernel_rfl) (kept_obj (HD.out.mid [_, _, _]) hb)), trivial⟩ (fun w1 hb => ⟨kept_obj (HD.out.mid [_, _]) hb, trivial⟩) (fun β W hB hL => ?_)
    simp only [Act.put, List.setIfInBounds_toArray, List.set_cons_zero, List.set_cons_succ]
    refine store_any (i := 2) (by kernel_rfl) ({ dst := none, op := Op.store 43 (Operand.tmp 6) (Operand.tmp 11), type := 0, pos := "ladder.go:15", after := #[{ on := 0, ground := Ground.data }, { on := 0, ground := Ground.phase }, { on := 1, ground := Ground.textOnly Departure.lateStores }], guard := none }) (by kernel_rfl) rfl rfl (.tmp 6) (.tmp 11) rfl (w.heap.size + 1 + 1) (fv a) (by kernel_rfl) (by kernel_rfl) [_] (HD.out.call hB) (fun W2 H2 => ⟨⟨H2.mid [_, _], trivial⟩, ?_⟩)
    refine store_any (i := 3) (by kernel_rfl) ({ dst := none, op := Op.store 43 (Operand.tmp 7) (Operand.tmp 12), type := 0, pos := "ladder.go:15", after := #[{ on := 1, ground := Ground.data }, { on := 2, ground := Ground.chain }, { on := 0, ground := Ground.phase }, { on := 1, ground := Ground.phase }, { on := 2, ground := Ground.phase }], guard := none }) (by kernel_rfl) rfl rfl (.tmp 7) (.tmp 12) rfl (w.heap.size + 1 + 1 + 1) (fv b) (by kernel_rfl) (by kernel_rfl) [] (H2) (fun W3 H3 => ⟨⟨H3.mid [_, _], trivial⟩, ?_⟩)
    refine wpAnyH_end (by kernel_rfl) ?_
    have H3 := hid H3
    clear H HD H2 hB hL
    go_wp2_with fail
    exact ret_nn (p := 6) (q := 7) rfl rfl rfl (H3.out.mid [_]) (H3.out.mid []) rfl ⟨rfl, H3.out.below⟩
  · change Calls Tryd.prog 33 _ w (RetNN w (fv b) (fv a))
    go_enter Tryd.func33, Tryd.ntmps33
    go_wp2_with fail
    have HD := hid H.out.drew
    refine wp_region_held_drew (S := fun v => v.heap[w.heap.size]? = some (nob (fv a)) ∧ True) (by kernel_rfl) ⟨HD.out.mid [_, _, _], trivial⟩ (fun hH0 => ?_)
    refine wpAnyH_take (i := 1) (oi := { dst := some 10, op := Op.load 43 (Operand.tmp 4), type := 43, pos := "ladder.go:13", after := #[{ on := 2, ground := Ground.gcOnly Departure.lateStores }], guard := none }) (v := .agg (NV (fv a))) rfl (by kernel_rfl) (by kernel_rfl) (by kernel_rfl) (fun _ _ _ h => h) (y_load_n rfl (.tmp 4) rfl (w.heap.size) (fv a) rfl (fun v hv => hv.1)) hH0 ?_
    simp only [Act.put, List.setIfInBounds_toArray, List.set_cons_zero, List.set_cons_succ]
    refine free_s [0] [] [0] [.agg (NV (fv b)), undef, undef, undef] #[false, true, false, false] #[true, true, false, false] 2 (fun act _ => (act.put (some 9) (.agg (NV (fv b))))) (by kernel_rfl) (by kernel_rfl) (by kernel_rfl) (by kernel_rfl) (fun β => by kernel_rfl) ⟨fun β w1 hb => givesAt_of ({ dst := some 9, op := Op.load 43 (Operand.tmp 5), type := 43, pos := "ladder.go:13", after := #[], guard := none }) (by kernel_rfl) (gives_load43 (.tmp 5) rfl (w.heap.size + 1) (fv b) (by kernel_rfl) (kept_obj (HD.out.mid [_, _]) hb)), trivial⟩ (fun w1 hb => ⟨kept_obj (HD.out.mid [_, _, _]) hb, trivial⟩) (fun β W hB hL => ?_)
    simp only [Act.put, List.setIfInBounds_toArray, List.set_cons_zero, List.set_cons_succ]
    refine store_any (i := 2) (by kernel_rfl) ({ dst := none, op := Op.store 43 (Operand.tmp 6) (Operand.tmp 9), type := 0, pos := "ladder.go:13", after := #[{ on := 0, ground := Ground.data }, { on := 0, ground := Ground.phase }, { on := 1, ground := Ground.textOnly Departure.lateStores }], guard := none }) (by kernel_rfl) rfl rfl (.tmp 6) (.tmp 9) rfl (w.heap.size + 1 + 1) (fv b) (by kernel_rfl) (by kernel_rfl) [_] (HD.out.call hB) (fun W2 H2 => ⟨⟨H2.mid [_, _, _], trivial⟩, ?_⟩)
    refine store_any (i := 3) (by kernel_rfl) ({ dst := none, op := Op.store 43 (Operand.tmp 7) (Operand.tmp 10), type := 0, pos := "ladder.go:13", after := #[{ on := 1, ground := Ground.data }, { on := 2, ground := Ground.chain }, { on := 0, ground := Ground.phase }, { on := 1, ground := Ground.phase }, { on := 2, ground := Ground.phase }], guard := none }) (by kernel_rfl) rfl rfl (.tmp 7) (.tmp 10) rfl (w.heap.size + 1 + 1 + 1) (fv a) (by kernel_rfl) (by kernel_rfl) [] (H2) (fun W3 H3 => ⟨⟨H3.mid [_, _, _], trivial⟩, ?_⟩)
    refine wpAnyH_end (by kernel_rfl) ?_
    have H3 := hid H3
    clear H HD H2 hB hL
    go_wp2_with fail
    exact ret_nn (p := 6) (q := 7) rfl rfl rfl (H3.out.mid [_]) (H3.out.mid []) rfl ⟨rfl, H3.out.below⟩
end Go.Proofs.YtflmkgecgijncaaDoor
