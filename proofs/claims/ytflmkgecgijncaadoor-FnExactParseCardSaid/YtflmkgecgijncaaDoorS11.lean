/-
  spec.whole, spec.octets, spec.element, spec.clamped, spec.swapped.
-/
import Derived.Test.YtflmkgecgijncaaDoorS10
namespace Go.Proofs.YtflmkgecgijncaaDoor
open Go.RowKit Go.Shelf Mth

theorem zero32 : Obj.cells (List.replicate 32 (Value.int .u8 0)).toArray 22 (0, 0) = aob (fun _ => 0) := by
  unfold aob; rw [show (List.replicate 32 (Value.int .u8 0)).toArray = (bvals fun _ => 0).toArray by kernel_rfl]
theorem av_eq (f : Nat → Int) : av f = .agg (bvals f).toArray := rfl

theorem aob_cell {w : World} {b : Nat} {f : Nat → Int} (h : w.heap[b]? = some (aob f)) {j : Nat} (hj : j < 32) : w.cell? ⟨b, j, none⟩ = some (.int .u8 (f j)) := by
  unfold World.cell? aob at *
  rw [h]
  simp [bvals_get f j hj]
theorem aob_frozen {w : World} {b : Nat} {f : Nat → Int} (h : w.heap[b]? = some (aob f)) (j : Nat) : w.frozen? ⟨b, j, none⟩ = false := by
  unfold World.frozen? aob at *
  rw [h]
  simp
theorem aob_set {w : World} {b : Nat} {f : Nat → Int} (h : w.heap[b]? = some (aob f)) (i : Nat) (z : Int) : (w.setCell ⟨b, i, none⟩ (.int .u8 z)).heap[b]? = some (aob (upd f i z)) := by
  unfold aob at *
  simp only [World.setCell, Array.getElem?_modify, h, if_true, Option.map_some, ← bvals_upd]
  rfl
section
variable {w0 W W2 : World} {B : Nat} {Bs : List (Nat × Obj)}
theorem Sto.byte (l1 : List (Nat × Obj)) {b : Nat} {f : Nat → Int} {l2 : List (Nat × Obj)} (h : Sto w0 W B (l1 ++ (b, aob f) :: l2)) (i : Nat) (z : Int) : Sto w0 (W.setCell ⟨b, i, none⟩ (.int .u8 z)) B (l1 ++ (b, aob (upd f i z)) :: l2) :=
  h.turn l1 ((Below.refl b W).setCell (Nat.le_refl b) _) (aob_set (h.mid l1) i z) (fun _ hk => Below.heap_setCell _ _ _ _ hk)
theorem Sto.zeros (h : Sto w0 W B Bs) : Sto w0 (W.alloc (.cells (List.replicate 32 (Value.int .u8 0)).toArray 22)) B ((W.heap.size, aob (fun _ => 0)) :: Bs) := by
  have := h.alloc (List.replicate 32 (Value.int .u8 0)).toArray 22
  rw [zero32] at this; exact this
theorem Sto.arr (h : Sto w0 W B Bs) (f : Nat → Int) : Sto w0 (W.alloc (.cells (bvals f).toArray 22)) B ((W.heap.size, aob f) :: Bs) := h.alloc _ 22
end

theorem load_a {ops : Array Oper} {rest : List Oper} {o : Oper} {a : Act} {w : World} {Q : Exit → Act → World → Prop} (hgd : o.guard = none) (x : Operand) (ho : o.op = .load 22 x)
    (g : Nat) (f : Nat → Int) (hx : a.eval x = .pointer (some ⟨g, 0, none⟩)) (hg : w.heap[g]? = some (aob f))
    (h : wpList Tryd.prog ops Q rest (a.put o.dst (av f)) w) : wpList Tryd.prog ops Q (o :: rest) a w := by
  refine wpList_load_row hgd 22 x ho g hx 22 (bvals f).toArray (0, 0) _ hg Tryd.underlying22 rfl (by rw [info22]; simp [bvals_len]) h

theorem store_a {ops : Array Oper} {rest : List Oper} {o : Oper} {a : Act} {w : World} {Q : Exit → Act → World → Prop} (hgd : o.guard = none) (x y : Operand) (ho : o.op = .store 22 x y)
    (g : Nat) (f : Nat → Int) (hx : a.eval x = .pointer (some ⟨g, 0, none⟩)) (hy : a.eval y = av f) {w0 : World} {B : Nat} (l1 : List (Nat × Obj)) {u : Nat → Int} {l2 : List (Nat × Obj)} (hg : Sto w0 w B (l1 ++ (g, aob u) :: l2))
    (h : ∀ w', Hid (Sto w0 w' B (l1 ++ (g, aob f) :: l2)) → wpList Tryd.prog ops Q rest (a.put o.dst undef) w') : wpList Tryd.prog ops Q (o :: rest) a w := by
  refine wpList_store_row hgd 22 x y ho g _ hx hy 22 (bvals u).toArray (hg.mid l1) (by rw [info22]; simp [bvals_len]) (by simp [bvals_len]) (one_bvals f) ?_
  exact h _ (hid (hg.row l1))

theorem build_a {ops : Array Oper} {rest : List Oper} {o : Oper} {a : Act} {w : World} {Q : Exit → Act → World → Prop} (hgd : o.guard = none) (parts : Array (Nat × Operand)) (ho : o.op = .build 22 parts)
    (f : Nat → Int) (l : List (Nat × Value)) (hl : (parts.map fun (i, x) => (i, a.eval x)).toList = l) (hb : Tryd.prog.built 22 l = some (bvals f).toArray)
    (h : wpList Tryd.prog ops Q rest (a.put o.dst (av f)) w) : wpList Tryd.prog ops Q (o :: rest) a w :=
  wpList_build hgd 22 parts ho (by rw [hl, hb]; rfl) (by rw [hl, hb]; exact h)

/-- The call returned 32 bytes; what was there is as it was. -/
def RetA (w : World) (f : Nat → Int) (e : Ending) (w' : World) : Prop := e = .returned (av f) ∧ Below w.heap.size w w'
theorem ret_a {fn : Func} {p : Tmp} {g : Nat} {f : Nat → Int} {R : Ending → World → Prop} {a : Act} {w : World} (h : fn.results = #[.cell p 22]) (hp : a.tmps.getD p undef = .pointer (some ⟨g, 0, none⟩)) (hg : w.heap[g]? = some (aob f))
    (hd : a.defers = []) (hR : R (.returned (av f)) w) : bodyPost Tryd.prog fn R .ret a w := ret_arr h hp hg hd hR

/-- The number of the first i bytes. -/
def lb (x : Nat → Int) : Nat → Int
  | 0 => 0
  | i + 1 => lb x i + x i * 256 ^ i

theorem nd_upd_any (f : Nat → Int) (q : Nat) (z : Int) : ∀ n, q < n → nd (upd f q z) n = nd f n + (z - f q) * bp q
  | 0, h => by omega
  | n + 1, h => by
    by_cases e : q = n
    · subst e; rw [nd_upd_succ, nd_succ]; grind
    · rw [nd_succ, nd_succ, nd_upd_any f q z n (by omega)]
      have : upd f q z n = f n := by unfold upd; rw [if_neg (fun h => e h.symm)]
      rw [this]; grind

theorem p256 (i : Nat) : (256 : Int) ^ i = 2 ^ (8 * (i % 4)) * bp (i / 4) := by
  unfold bp
  rw [show (256 : Int) = 2 ^ 8 by decide, show (4294967296 : Int) = 2 ^ 32 by decide, ← Int.pow_mul, ← Int.pow_mul, ← Int.pow_add]
  congr 1; omega

structure WholeInv (x f : Nat → Int) (i : Nat) : Prop where
  dig : Dig f
  val : nd f 8 = lb x i
  part : f (i / 4) < 2 ^ (8 * (i % 4))
  rest : ∀ j, i / 4 < j → f j = 0

theorem whole_step {x f : Nat → Int} {i : Nat} (hx : Byt x) (h : WholeInv x f i) (hi : i < 32) :
    WholeInv x (upd f (i / 4) (f (i / 4) + x i * 2 ^ (8 * (i % 4)))) (i + 1) := by
  obtain ⟨h1, h2, h3, h4⟩ := h
  have b := hx i
  have d := h1 (i / 4)
  have e := p256 i
  have val : nd (upd f (i / 4) (f (i / 4) + x i * 2 ^ (8 * (i % 4)))) 8 = lb x (i + 1) := by
    rw [nd_upd_any _ _ _ 8 (by omega), h2]
    show _ = lb x i + x i * 256 ^ i
    rw [e]; grind
  have hr : i % 4 = 0 ∨ i % 4 = 1 ∨ i % 4 = 2 ∨ i % 4 = 3 := by omega
  have key : 0 ≤ f (i / 4) + x i * 2 ^ (8 * (i % 4)) ∧ f (i / 4) + x i * 2 ^ (8 * (i % 4)) < 2 ^ (8 * (i % 4) + 8) ∧ f (i / 4) + x i * 2 ^ (8 * (i % 4)) < 4294967296 := by
    rcases hr with r | r | r | r <;> rw [r] at h3 ⊢ <;> simp at h3 ⊢ <;> omega
  refine ⟨h1.upd key.1 key.2.2, val, ?_, fun j hj => ?_⟩
  · by_cases e3 : i % 4 = 3
    · have q1 : (i + 1) / 4 = i / 4 + 1 := by omega
      have q2 : (i + 1) % 4 = 0 := by omega
      rw [q1, q2]
      have : upd f (i / 4) (f (i / 4) + x i * 2 ^ (8 * (i % 4))) (i / 4 + 1) = 0 := by unfold upd; rw [if_neg (by omega)]; exact h4 _ (by omega)
      rw [this]; decide
    · have q1 : (i + 1) / 4 = i / 4 := by omega
      have q2 : (i + 1) % 4 = i % 4 + 1 := by omega
      rw [q1, q2]
      have : upd f (i / 4) (f (i / 4) + x i * 2 ^ (8 * (i % 4))) (i / 4) = f (i / 4) + x i * 2 ^ (8 * (i % 4)) := by unfold upd; rw [if_pos rfl]
      rw [this, show 8 * (i % 4 + 1) = 8 * (i % 4) + 8 by omega]; exact key.2.1
  · unfold upd
    rw [if_neg (by omega)]
    exact h4 j (by omega)

theorem whole_start (x : Nat → Int) : WholeInv x (fun _ => 0) 0 := ⟨dig_zero, nd_const 8, by decide, fun _ _ => rfl⟩

theorem shl_u64 (x : Int) (r : Nat) (h0 : 0 ≤ x) (h1 : x ≤ 255) (hr : r < 4) : IntKind.u64.wrap (x * 2 ^ (8 * r)) = x * 2 ^ (8 * r) := by
  rw [IntKind.wrap_u64]
  have : r = 0 ∨ r = 1 ∨ r = 2 ∨ r = 3 := by omega
  rcases this with r | r | r | r <;> subst r <;> simp <;> omega

theorem dob8_zero : nob 0 = dob 43 8 (fun _ => 0) := by unfold nob dob; rw [← zero8, zero8d]

set_option maxRecDepth 100000 in
set_option maxHeartbeats 1000000 in
theorem whole_any (x : Nat → Int) (hx : Byt x) (w : World) : Calls Tryd.prog 51 #[av x] w (RetN w (lb x 32)) := by
  have HX := hid hx
  clear hx
  have S0 := (((Sto.start w).arr x).zero).zero
  have e1 : (w.alloc (.cells (bvals x).toArray 22)).heap.size = w.heap.size + 1 := by simp
  have e2 : ((w.alloc (.cells (bvals x).toArray 22)).alloc (.cells (List.replicate 8 (Value.int .u64 0)).toArray 43)).heap.size = w.heap.size + 1 + 1 := by simp
  rw [e1, e2] at S0
  have H := hid S0
  clear S0 e1 e2
  unfold av
  go_enter Tryd.func51, Tryd.ntmps51
  go_wp2_with (first | (refine build_n rfl _ rfl 0 _ (by kernel_rfl) built_eight ?_) | (refine store_n rfl _ _ rfl (w.heap.size + 1 + 1) 0 rfl rfl [] H.out ?_; intro w1 H1))
  go_loopw [4] (fun i wr => ∃ (k : Nat) (f : Nat → Int), k ≤ 32 ∧ i = .int .i64 k ∧ Hid (WholeInv x f k ∧ Sto w wr w.heap.size [(w.heap.size + 1 + 1, dob 43 8 f), (w.heap.size + 1, nob 0), (w.heap.size, aob x)])) (fun i _ => 32 - (intOf i).toNat)
  case atStart => exact ⟨0, fun _ => 0, by omega, rfl, hid ⟨whole_start x, dob8_zero ▸ H1.out⟩⟩
  case round =>
    obtain ⟨k, f, hk, rfl, I⟩ := hrel
    clear H H1
    by_cases hlt : k < 32
    · have NX := hid (whole_step HX.out I.out.1 hlt)
      have ca := dob_cell (I.out.2.mid []) (show k / 4 < 8 by omega)
      have fa := dob_frozen (I.out.2.mid []) (k / 4)
      have cx := aob_cell (I.out.2.mid [_, _]) hlt
      have dx := HX.out k
      have da := I.out.1.dig (k / 4)
      have HS := hid I.out.2
      have sh := shl_u64 (x k) (k % 4) dx.1 dx.2 (by omega)
      have sb : 0 ≤ x k * 2 ^ (8 * (k % 4)) ∧ f (k / 4) + x k * 2 ^ (8 * (k % 4)) < 18446744073709551616 := by
        have hr : k % 4 = 0 ∨ k % 4 = 1 ∨ k % 4 = 2 ∨ k % 4 = 3 := by omega
        rcases hr with r | r | r | r <;> rw [r] <;> simp <;> omega
      generalize hu : f (k / 4) = u at *
      generalize hv : x k = v at *
      have HU := hid hu
      have HV := hid hv
      clear hu hv I
      generalize hz : v * 2 ^ (8 * (k % 4)) = z at *
      have HZ := hid hz
      clear hz
      have w0 : IntKind.i64.wrap ((k : Int) / 4) = (k : Int) / 4 := IntWalk.i64_in _ (by omega)
      have w01 : (0 : Int) ≤ (k : Int) / 4 := by omega
      have w02 : ((k : Int) / 4).toNat = k / 4 := by omega
      have w03 : (k : Int) / 4 < 8 := by omega
      have w04 : k / 4 < 8 := by omega
      have w1 : IntKind.i64.wrap ((k : Int) % 4) = (k : Int) % 4 := IntWalk.i64_in _ (by omega)
      have w11 : (k : Int).tmod 4 = (k : Int) % 4 := Int.tmod_eq_emod_of_nonneg (by omega)
      have w12 : IntKind.u64.wrap v = v := by rw [IntKind.wrap_u64]; omega
      have w2 : IntKind.i64.wrap (8 * ((k : Int) % 4)) = 8 * ((k : Int) % 4) := IntWalk.i64_in _ (by omega)
      have w21 : (0 : Int) ≤ 8 * ((k : Int) % 4) := by omega
      have w22 : (8 * ((k : Int) % 4)).toNat = 8 * (k % 4) := by omega
      have w3 : IntKind.u64.wrap (u + z) = u + z := by rw [IntKind.wrap_u64]; omega
      have w4 : v * 2 ^ (8 * (k % 4)) = z := HZ.out
      go_wp2_with fail
      go_still_tail 16, (by kernel_rfl)
      clear w0 w01 w02 w03 w04 w1 w11 w12 w2 w21 w22 w3 w4
      change wpList _ _ _ _ _ (World.drew _)
      go_wp2_with fail
      go_roundw
      case rel => exact ⟨k + 1, _, by omega, by go_num, hid ⟨NX.out, HS.out.drew.cell [] (k / 4) _⟩⟩
      case measure => simp [intOf]; omega
    · obtain rfl : k = 32 := by omega
      have E := hid (dob_num I.out.1.dig I.out.1.val)
      have HS := hid (E.out ▸ I.out.2)
      clear I
      go_wp2_with (first | (refine load_n rfl _ rfl (w.heap.size + 1 + 1) (lb x 32) rfl (HS.out.mid []) ?_) | (refine store_n rfl _ _ rfl (w.heap.size + 1) (lb x 32) rfl rfl [_] HS.out ?_; intro w3 H3))
      exact ret_n (p := 2) rfl rfl (H3.out.mid [_]) rfl ⟨rfl, H3.out.below⟩

theorem dg_byte (V : Int) (k : Nat) : dg V (k / 4) / 2 ^ (8 * (k % 4)) % 256 = byteOf V k := by
  unfold dg bp byteOf
  have e : (2 : Int) ^ (8 * k) = 4294967296 ^ (k / 4) * 2 ^ (8 * (k % 4)) := by
    rw [show (4294967296 : Int) = 2 ^ 32 by decide, ← Int.pow_mul, ← Int.pow_add]; congr 1; omega
  have hp : (0 : Int) < 4294967296 ^ (k / 4) := Int.pow_pos (by decide)
  rw [e, ← Int.ediv_ediv_of_nonneg (Int.le_of_lt hp)]
  generalize V / 4294967296 ^ (k / 4) = z
  have hr : k % 4 = 0 ∨ k % 4 = 1 ∨ k % 4 = 2 ∨ k % 4 = 3 := by omega
  rcases hr with r | r | r | r <;> rw [r] <;> simp <;> omega

theorem aob_congr {f g : Nat → Int} (h : ∀ j, j < 32 → f j = g j) : aob f = aob g := by
  unfold aob bvals
  congr 2
  apply List.map_congr_left
  intro j hj
  rw [h j (List.mem_range.1 hj)]

set_option maxRecDepth 100000 in
set_option maxHeartbeats 1000000 in
theorem octets_any (V : Int) (w : World) : Calls Tryd.prog 37 #[.agg (NV V)] w (RetA w (byteOf V)) := by
  have S0 := (((Sto.start w).alloc (NV V) 43).zeros).zeros
  have e1 : (w.alloc (.cells (NV V) 43)).heap.size = w.heap.size + 1 := by simp
  have e2 : ((w.alloc (.cells (NV V) 43)).alloc (.cells (List.replicate 32 (Value.int .u8 0)).toArray 22)).heap.size = w.heap.size + 1 + 1 := by simp
  rw [e1, e2] at S0
  have H : Hid (Sto w _ w.heap.size [(w.heap.size + 1 + 1, aob fun _ => 0), (w.heap.size + 1, aob fun _ => 0), (w.heap.size, nob V)]) := hid S0
  clear S0 e1 e2
  go_enter Tryd.func37, Tryd.ntmps37
  go_wp2_with (first | (refine build_a rfl _ rfl (fun _ => 0) _ (by kernel_rfl) built_zero ?_) | (refine store_a rfl _ _ rfl (w.heap.size + 1 + 1) (fun _ => 0) rfl rfl [] H.out ?_; intro w1 H1))
  go_loopw [4] (fun i wr => ∃ (k : Nat) (f : Nat → Int), k ≤ 32 ∧ i = .int .i64 k ∧ Hid ((∀ j, j < k → f j = byteOf V j) ∧ Sto w wr w.heap.size [(w.heap.size + 1 + 1, aob f), (w.heap.size + 1, aob fun _ => 0), (w.heap.size, nob V)])) (fun i _ => 32 - (intOf i).toNat)
  case atStart => exact ⟨0, fun _ => 0, by omega, rfl, hid ⟨fun j hj => by omega, H1.out⟩⟩
  case round =>
    obtain ⟨k, f, hk, rfl, I⟩ := hrel
    clear H H1
    by_cases hlt : k < 32
    · have ca := dob_cell (f := dg V) (I.out.2.mid [_, _]) (show k / 4 < 8 by omega)
      have cx := aob_cell (I.out.2.mid []) hlt
      have fx := aob_frozen (I.out.2.mid []) k
      have da := dg_dig V (k / 4)
      have E := hid (dg_byte V k)
      generalize hu : dg V (k / 4) = u at *
      have HU := hid hu
      clear hu
      have w01 : (0 : Int) ≤ (k : Int) / 4 := by omega
      have w03 : (k : Int) / 4 < 8 := by omega
      have w04 : k / 4 < 8 := by omega
      go_wp2_with fail
      clear w01 w03 w04
      go_roundw
      case rel =>
        refine ⟨k + 1, _, by omega, by go_num, hid ⟨?_, I.out.2.byte [] k _⟩⟩
        intro j hj
        unfold upd
        by_cases e : j = k
        · subst e; rw [if_pos rfl]; exact E.out
        · rw [if_neg e]; exact I.out.1 j (by omega)
      case measure => simp [intOf]; omega
    · obtain rfl : k = 32 := by omega
      have HS := hid (aob_congr I.out.1 ▸ I.out.2)
      clear I
      go_wp2_with (first | (refine load_a rfl _ rfl (w.heap.size + 1 + 1) (byteOf V) rfl (HS.out.mid []) ?_) | (refine store_a rfl _ _ rfl (w.heap.size + 1) (byteOf V) rfl rfl [_] HS.out ?_; intro w3 H3))
      exact ret_a (p := 2) rfl rfl (H3.out.mid [_]) rfl ⟨rfl, H3.out.below⟩
end Go.Proofs.YtflmkgecgijncaaDoor
