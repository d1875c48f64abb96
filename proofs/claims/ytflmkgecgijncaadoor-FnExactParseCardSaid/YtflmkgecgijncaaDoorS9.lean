/-
  spec.times.
-/
import Derived.Test.YtflmkgecgijncaaDoorS8
namespace Go.Proofs.YtflmkgecgijncaaDoor
open Go.RowKit Go.Shelf Mth

theorem built_sixteen : Tryd.prog.built 74 [] = some (nvals 16 fun _ => 0).toArray := by kernel_rfl
theorem built_eight : Tryd.prog.built 43 [] = some (NV 0) := by kernel_rfl
theorem info74 : (Tryd.prog.info? 74).map (·.size) = some 16 := by kernel_rfl

theorem nd_split (f : Nat → Int) (i : Nat) : ∀ k, nd f (i + k) = nd f i + bp i * nd (fun j => f (i + j)) k
  | 0 => by rw [Nat.add_zero, nd_zero, Int.mul_zero, Int.add_zero]
  | k + 1 => by
    rw [← Nat.add_assoc, nd_succ, nd_succ, nd_split f i k, bp_add]
    generalize bp i = p
    generalize bp k = r
    generalize nd f i = n0
    generalize nd (fun j => f (i + j)) k = n1
    generalize f (i + k) = z
    grind

theorem mul_le {x y : Int} (hx : 0 ≤ x ∧ x < 4294967296) (hy : 0 ≤ y ∧ y < 4294967296) : 0 ≤ x * y ∧ x * y ≤ 18446744065119617025 := by
  refine ⟨Int.mul_nonneg hx.1 hy.1, ?_⟩
  have := Int.mul_le_mul (show x ≤ 4294967295 by omega) (show y ≤ 4294967295 by omega) hy.1 (by decide)
  omega

theorem mul_step {f g b : Nat → Int} {x : Int} {i k : Nat} {q : Int} (hd : Dig g) (hb : 0 ≤ b k ∧ b k < 4294967296) (hx : 0 ≤ x ∧ x < 4294967296) (q0 : 0 ≤ q) (q1 : q ≤ 4294967295) (h : nd g (i + k) + q * bp (i + k) = nd f (i + k) + x * bp i * nd b k) (hr : ∀ j, i + k ≤ j → g j = f j) :
    Dig (upd g (i + k) ((q + g (i + k) + x * b k) % 4294967296)) ∧ 0 ≤ (q + g (i + k) + x * b k) / 4294967296 ∧ (q + g (i + k) + x * b k) / 4294967296 ≤ 4294967295 ∧
    nd (upd g (i + k) ((q + g (i + k) + x * b k) % 4294967296)) (i + (k + 1)) + (q + g (i + k) + x * b k) / 4294967296 * bp (i + (k + 1)) = nd f (i + (k + 1)) + x * bp i * nd b (k + 1) ∧ ∀ j, i + (k + 1) ≤ j → upd g (i + k) ((q + g (i + k) + x * b k) % 4294967296) j = f j := by
  have d1 := hd (i + k)
  have e := hr (i + k) (Nat.le_refl _)
  have m := mul_le hx hb
  refine ⟨hd.upd (by omega) (by omega), by omega, by omega, ?_, fun j hj => ?_⟩
  · rw [← Nat.add_assoc, nd_upd_succ, nd_succ, nd_succ, bp_succ]
    have c := carry_step (q + g (i + k) + x * b k) 4294967296 rfl
    rw [e] at *
    rw [bp_add] at *
    generalize (q + f (i + k) + x * b k) / 4294967296 = u at *
    generalize (q + f (i + k) + x * b k) % 4294967296 = v at *
    generalize f (i + k) = z at *
    generalize b k = y at *
    generalize bp i = p at *
    generalize bp k = r at *
    generalize nd g (i + k) = n0 at *
    generalize nd f (i + k) = n1 at *
    generalize nd b k = n2 at *
    clear d1 e hr hd q0 q1 m hx hb
    have c2 : (q + z + x * y) * (p * r) = (4294967296 * u + v) * (p * r) := by rw [c]
    grind
  · unfold upd; rw [if_neg (by omega)]; exact hr j (by omega)

theorem low_step {f l : Nat → Int} {k : Nat} {q : Int} (hd : Dig l) (hf : Dig f) (q0 : 0 ≤ q) (q1 : q ≤ 39) (h : nd l k + q * bp k = nd f k + 38 * nd (fun j => f (8 + j)) k) :
    Dig (upd l k ((q + f k + 38 * f (k + 8)) % 4294967296)) ∧ 0 ≤ (q + f k + 38 * f (k + 8)) / 4294967296 ∧ (q + f k + 38 * f (k + 8)) / 4294967296 ≤ 39 ∧
    nd (upd l k ((q + f k + 38 * f (k + 8)) % 4294967296)) (k + 1) + (q + f k + 38 * f (k + 8)) / 4294967296 * bp (k + 1) = nd f (k + 1) + 38 * nd (fun j => f (8 + j)) (k + 1) := by
  have d1 := hf k
  have d2 := hf (k + 8)
  refine ⟨hd.upd (by omega) (by omega), by omega, by omega, ?_⟩
  rw [nd_upd_succ, nd_succ, nd_succ, bp_succ, Nat.add_comm 8 k]
  have c := carry_step (q + f k + 38 * f (k + 8)) 4294967296 rfl
  generalize (q + f k + 38 * f (k + 8)) / 4294967296 = u at *
  generalize (q + f k + 38 * f (k + 8)) % 4294967296 = v at *
  generalize f (k + 8) = y at *
  generalize f k = x at *
  generalize bp k = p at *
  generalize nd l k = n0 at *
  generalize nd f k = n1 at *
  generalize nd (fun j => f (8 + j)) k = n2 at *
  clear d1 d2 hf hd q0 q1
  have c2 : (q + x + 38 * y) * p = (4294967296 * u + v) * p := by rw [c]
  grind

theorem outer_step {f g a b : Nat → Int} {i : Nat} {q : Int} (h : nd f (i + 8) = nd a i * nd b 8) (hj : nd g (i + 8) + q * bp (i + 8) = nd f (i + 8) + a i * bp i * nd b 8) :
    nd (upd g (i + 8) q) (i + 1 + 8) = nd a (i + 1) * nd b 8 := by
  rw [show i + 1 + 8 = i + 8 + 1 by omega, nd_upd_succ, hj, h, nd_succ a i, Int.add_mul]

theorem prod_eq {A B : Int} {f : Nat → Int} (ha : 0 ≤ A ∧ A < bp 8) (hb : 0 ≤ B ∧ B < bp 8) (h : nd f (8 + 8) = nd (dg A) 8 * nd (dg B) 8) : nd f 8 + bp 8 * nd (fun j => f (8 + j)) 8 = A * B := by
  rw [nd_split, nd8 ha.1 ha.2, nd8 hb.1 hb.2] at h; exact h

theorem low_eq {f l : Nat → Int} {q P : Int} (h : nd l 8 + q * bp 8 = nd f 8 + 38 * nd (fun j => f (8 + j)) 8) (hp : nd f 8 + bp 8 * nd (fun j => f (8 + j)) 8 = P) : (nd l 8 + q * bp 8) % pI = P % pI := by
  rw [h, ← hp]
  generalize nd f 8 = x
  generalize nd (fun j => f (8 + j)) 8 = y
  have : x + bp 8 * y = x + 38 * y + pI * (2 * y) := by rw [bp_eight]; unfold pI; omega
  rw [this, Int.add_mul_emod_self_left]

/-- A block is made of a type of 16 digits. -/
theorem store_d {ops : Array Oper} {rest : List Oper} {o : Oper} {a : Act} {w : World} {Q : Exit → Act → World → Prop} (hgd : o.guard = none) (t n : Nat) (x y : Operand) (ho : o.op = .store t x y) (hi : (Tryd.prog.info? t).map (·.size) = some n)
    (g : Nat) (f h : Nat → Int) (hx : a.eval x = .pointer (some ⟨g, 0, none⟩)) (hy : a.eval y = .agg (nvals n f).toArray) {w0 : World} {B : Nat} (l1 : List (Nat × Obj)) {l2 : List (Nat × Obj)} (hg : Sto w0 w B (l1 ++ (g, dob t n h) :: l2))
    (hh : ∀ w', Hid (Sto w0 w' B (l1 ++ (g, dob t n f) :: l2)) → wpList Tryd.prog ops Q rest (a.put o.dst undef) w') : wpList Tryd.prog ops Q (o :: rest) a w := by
  refine wpList_store_row hgd t x y ho g _ hx hy t (nvals n h).toArray (hg.mid l1) (by rw [hi]; simp [nvals_len]) (by simp [nvals_len]) (one_nvals n f) ?_
  exact hh _ (hid (hg.row l1))

theorem build_d {ops : Array Oper} {rest : List Oper} {o : Oper} {a : Act} {w : World} {Q : Exit → Act → World → Prop} (hgd : o.guard = none) (t n : Nat) (parts : Array (Nat × Operand)) (ho : o.op = .build t parts)
    (f : Nat → Int) (l : List (Nat × Value)) (hl : (parts.map fun (i, x) => (i, a.eval x)).toList = l) (hb : Tryd.prog.built t l = some (nvals n f).toArray)
    (h : wpList Tryd.prog ops Q rest (a.put o.dst (.agg (nvals n f).toArray)) w) : wpList Tryd.prog ops Q (o :: rest) a w :=
  wpList_build hgd t parts ho (by rw [hl, hb]; rfl) (by rw [hl, hb]; exact h)

theorem sixteen_new : Obj.cells (List.replicate 16 (Value.int .u64 0)).toArray 74 (0, 0) = dob 74 16 (fun _ => 0) := by unfold dob; rw [zero16d]

theorem dig_zero : Dig (fun _ => 0) := fun _ => ⟨Int.le_refl 0, by show (0 : Int) < 4294967296; decide⟩
theorem nd_const : ∀ k, nd (fun _ => 0) k = 0
  | 0 => rfl
  | k + 1 => by rw [nd_succ, nd_const k]; simp

set_option maxRecDepth 100000 in
set_option maxHeartbeats 2000000 in
theorem times_any (A B : Int) (a0 : 0 ≤ A) (b0 : 0 ≤ B) (a1 : A < bp 8) (b1 : B < bp 8) (w : World) : Calls Tryd.prog 36 #[.agg (NV A), .agg (NV B)] w (RetN w (A * B % pI)) := by
  have AB := hid (And.intro (And.intro a0 a1) (And.intro b0 b1))
  clear a0 b0 a1 b1
  have H := three_n A B w
  have e4 : (((w.alloc (.cells (NV A) 43)).alloc (.cells (NV B) 43)).alloc (.cells (List.replicate 8 (Value.int .u64 0)).toArray 43)).heap.size = w.heap.size + 1 + 1 + 1 := by simp
  have H4 := H.out.alloc (List.replicate 16 (Value.int .u64 0)).toArray 74
  rw [sixteen_new, e4] at H4
  replace H4 := hid H4
  clear H e4
  go_enter Tryd.func36, Tryd.ntmps36
  go_wp2_with (first | (refine build_d rfl 74 16 _ rfl (fun _ => 0) _ (by kernel_rfl) built_sixteen ?_) | (refine store_d rfl 74 16 _ _ rfl info74 (w.heap.size + 1 + 1 + 1) (fun _ => 0) _ rfl rfl [] H4.out ?_; intro w1 H5))
  go_loopw [6] (fun i wr => ∃ (k : Nat) (f : Nat → Int), k ≤ 8 ∧ i = .int .i64 k ∧ Hid (Dig f ∧ nd f (k + 8) = nd (dg A) k * nd (dg B) 8 ∧
      Sto w wr w.heap.size [(w.heap.size + 1 + 1 + 1, dob 74 16 f), (w.heap.size + 1 + 1, nob 0), (w.heap.size + 1, nob B), (w.heap.size, nob A)])) (fun i _ => 8 - (intOf i).toNat)
  case atStart => exact ⟨0, _, by omega, rfl, hid ⟨dig_zero, by rw [nd_const, nd_zero, Int.zero_mul], H5.out⟩⟩
  case round =>
    obtain ⟨i, f, hi, rfl, I⟩ := hrel
    clear H4 H5
    by_cases hlt : i < 8
    · go_wp2_with fail
      go_loopw [7, 8] (fun c i' wr => ∃ (k : Nat) (q : Int) (g : Nat → Int), k ≤ 8 ∧ i' = .int .i64 k ∧ c = .int .u64 q ∧ 0 ≤ q ∧ q ≤ 4294967295 ∧ Hid (Dig g ∧ nd g (i + k) + q * bp (i + k) = nd f (i + k) + dg A i * bp i * nd (dg B) k ∧ (∀ j, i + k ≤ j → g j = f j) ∧
        Sto w wr w.heap.size [(w.heap.size + 1 + 1 + 1, dob 74 16 g), (w.heap.size + 1 + 1, nob 0), (w.heap.size + 1, nob B), (w.heap.size, nob A)])) (fun _ i' _ => 8 - (intOf i').toNat)
      case atStart => exact ⟨0, 0, f, by omega, rfl, rfl, by omega, by omega, hid ⟨I.out.1, by rw [nd_zero, Int.zero_mul, Int.mul_zero], fun _ _ => rfl, I.out.2.2⟩⟩
      case round =>
        obtain ⟨k, q, g, hk, rfl, rfl, q0, q1, J⟩ := hrel
        by_cases hlk : k < 8
        · obtain ⟨hd, hn, hr, hS⟩ := J.out
          obtain ⟨s1, s2, s3, s4, s5⟩ := mul_step hd (dg_dig B k) (dg_dig A i) q0 q1 hn hr
          have cg := dob_cell (hS.mid []) (show i + k < 16 by omega)
          have fg := dob_frozen (hS.mid []) (i + k)
          have ca := dob_cell (nob_dob A ▸ hS.mid [_, _, _]) hlt
          have cb := dob_cell (nob_dob B ▸ hS.mid [_, _]) hlk
          have dg0 := hd (i + k)
          have da := dg_dig A i
          have db := dg_dig B k
          have dm := mul_le da db
          have K := hid (And.intro s1 (And.intro s4 (And.intro s5 hS)))
          generalize hu : dg A i = u at *
          generalize hv : dg B k = v at *
          generalize hz : g (i + k) = z at *
          have HU := hid hu
          have HV := hid hv
          have HZ := hid hz
          clear hu hv hz s1 s4 s5 hS hd hn hr J I
          generalize hm : u * v = m at *
          have w0 : IntKind.i64.wrap ((i : Int) + k) = (i : Int) + k := IntWalk.i64_in _ (by omega)
          have w01 : (0 : Int) ≤ (i : Int) + k := by omega
          have w02 : ((i : Int) + k).toNat = i + k := by omega
          have w1 : IntKind.u64.wrap (q + z) = q + z := by rw [IntKind.wrap_u64]; omega
          have w2 : IntKind.u64.wrap (u * v) = m := by rw [IntKind.wrap_u64, hm]; omega
          have w3 : IntKind.u64.wrap (q + z + m) = q + z + m := by rw [IntKind.wrap_u64]; omega
          have HM := hid hm
          clear hm
          go_wp2_with fail
          go_quiet (fail)
          clear w0 w01 w02 w1 w2 w3
          go_wp2_with fail
          go_roundw
          case rel => exact ⟨k + 1, _, _, by omega, by go_num, rfl, s2, s3, hid ⟨K.out.1, K.out.2.1, K.out.2.2.1, (K.out.2.2.2.drewN _).cell [] (i + k) _⟩⟩
          case measure => simp [intOf]; omega
        · obtain rfl : k = 8 := by omega
          have cg := dob_cell (J.out.2.2.2.mid []) (show i + 8 < 16 by omega)
          have fg := dob_frozen (J.out.2.2.2.mid []) (i + 8)
          have E := hid (outer_step I.out.2.1 J.out.2.1)
          have D := hid (J.out.1.upd (i := i + 8) q0 (show q < 4294967296 by omega))
          go_wp2_with fail
          go_roundw
          case rel => exact ⟨i + 1, _, by omega, by go_num, hid ⟨D.out, E.out, J.out.2.2.2.cell [] (i + 8) q⟩⟩
          case measure => simp [intOf]; omega
    · obtain rfl : i = 8 := by omega
      go_wp2_with (first | (refine build_n rfl _ rfl 0 _ (by kernel_rfl) built_eight ?_) | (refine store_n rfl _ _ rfl wr.heap.size 0 rfl rfl [] I.out.2.2.zero ?_; intro w2 H2))
      generalize wr.heap.size = n4 at *
      have E16 := hid (prod_eq AB.out.1 AB.out.2 I.out.2.1)
      have DF := hid I.out.1
      clear I
      go_loopw [10, 11] (fun c i' wr => ∃ (k : Nat) (q : Int) (l : Nat → Int), k ≤ 8 ∧ i' = .int .i64 k ∧ c = .int .u64 q ∧ 0 ≤ q ∧ q ≤ 39 ∧ Hid (Dig l ∧ nd l k + q * bp k = nd f k + 38 * nd (fun j => f (8 + j)) k ∧
        Sto w wr w.heap.size [(n4, dob 43 8 l), (w.heap.size + 1 + 1 + 1, dob 74 16 f), (w.heap.size + 1 + 1, nob 0), (w.heap.size + 1, nob B), (w.heap.size, nob A)])) (fun _ i' _ => 8 - (intOf i').toNat)
      case atStart => exact ⟨0, 0, dg 0, by omega, rfl, rfl, by omega, by omega, hid ⟨dg_dig 0, by rw [nd_zero, nd_zero, nd_zero]; omega, H2.out⟩⟩
      case round =>
        obtain ⟨k, q, l, hk, rfl, rfl, q0, q1, J⟩ := hrel
        clear H2
        by_cases hlk : k < 8
        · obtain ⟨hd, hn, hS⟩ := J.out
          obtain ⟨s1, s2, s3, s4⟩ := low_step hd DF.out q0 q1 hn
          have ca := dob_cell (hS.mid [_]) (show k < 16 by omega)
          have cb := dob_cell (hS.mid [_]) (show k + 8 < 16 by omega)
          have cl := dob_cell (hS.mid []) hlk
          have fl := dob_frozen (hS.mid []) k
          have da := DF.out k
          have db := DF.out (k + 8)
          have K := hid (And.intro s1 (And.intro s4 hS))
          generalize hu : f k = u at *
          generalize hv : f (k + 8) = v at *
          have HU := hid hu
          have HV := hid hv
          clear hu hv s1 s4 hS hd hn J
          have w0 : IntKind.i64.wrap ((k : Int) + 8) = (k : Int) + 8 := IntWalk.i64_in _ (by omega)
          have w01 : (0 : Int) ≤ (k : Int) + 8 := by omega
          have w02 : ((k : Int) + 8).toNat = k + 8 := by omega
          have w1 : IntKind.u64.wrap (q + u) = q + u := by rw [IntKind.wrap_u64]; omega
          have w2 : IntKind.u64.wrap (38 * v) = 38 * v := by rw [IntKind.wrap_u64]; omega
          have w3 : IntKind.u64.wrap (q + u + 38 * v) = q + u + 38 * v := by rw [IntKind.wrap_u64]; omega
          go_wp2_with fail
          go_quiet (fail)
          clear w0 w01 w02 w1 w2 w3
          go_wp2_with fail
          go_roundw
          case rel => exact ⟨k + 1, _, _, by omega, by go_num, rfl, s2, s3, hid ⟨K.out.1, K.out.2.1, (K.out.2.2.drewN _).cell [] k _⟩⟩
          case measure => simp [intOf]; omega
        · obtain rfl : k = 8 := by omega
          have E := hid (low_eq J.out.2.1 E16.out)
          have L := hid (And.intro (nd_lt J.out.1 8) (dob_num J.out.1 rfl))
          have HS := hid (L.out.2 ▸ J.out.2.2)
          clear J
          generalize nd l 8 = V at *
          go_wp2_with (first
            | (refine load_n rfl _ rfl n4 V rfl (HS.out.mid []) ?_)
            | (go_at_call 52; refine (folded_any V q L.out.1.1 L.out.1.2 q0 (by omega) _).mono ?_; rintro e w3 ⟨rfl, hb⟩; have H3 := hid (HS.out.call hb); clear HS hb)
            | (refine store_n rfl _ _ rfl (w.heap.size + 1 + 1) ((V + q * bp 8) % pI) rfl rfl [_, _] H3.out ?_; intro w4 H4))
          rw [← E.out]
          exact ret_n (p := 4) rfl rfl (H4.out.mid [_, _]) rfl ⟨rfl, H4.out.below⟩
end Go.Proofs.YtflmkgecgijncaaDoor
