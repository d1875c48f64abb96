/-
  spec.Few, laws.FnFew. Printed by gen_few.py.
-/
import Derived.Test.YtflmkgecgijncaaDoorL7
namespace Go.Proofs.YtflmkgecgijncaaDoor
open Go.RowKit Go.Shelf Mth

def fewc (j : Nat) : Int := ([224, 235, 122, 124, 59, 65, 184, 174, 22, 86, 227, 250, 241, 159, 196, 106, 218, 9, 141, 235, 156, 50, 177, 253, 134, 98, 5, 22, 95, 73, 184, 0] : List Int).getD j 0
def fewd (j : Nat) : Int := ([95, 156, 149, 188, 163, 80, 140, 36, 177, 208, 177, 85, 156, 131, 239, 91, 4, 68, 92, 196, 88, 28, 142, 134, 216, 34, 78, 221, 208, 159, 17, 87] : List Int).getD j 0
theorem under3 : Tryd.prog.underlying 3 = some (.int .i64) := by kernel_rfl
/-- The five first coordinates. -/
def fewv (i : Int) : Nat → Int := if i = 0 then zeros else if i = 1 then upd zeros 0 1 else if i = 2 then byteOf (pI - 1) else if i = 3 then fewc else fewd

theorem built_few1 : Tryd.prog.built 22 [(0, .int .u8 1)] = some (bvals (upd zeros 0 1)).toArray := by kernel_rfl
set_option maxRecDepth 100000 in
theorem built_few3 : Tryd.prog.built 22 [(0, .int .u8 224), (1, .int .u8 235), (2, .int .u8 122), (3, .int .u8 124), (4, .int .u8 59), (5, .int .u8 65), (6, .int .u8 184), (7, .int .u8 174), (8, .int .u8 22), (9, .int .u8 86), (10, .int .u8 227), (11, .int .u8 250), (12, .int .u8 241), (13, .int .u8 159), (14, .int .u8 196), (15, .int .u8 106), (16, .int .u8 218), (17, .int .u8 9), (18, .int .u8 141), (19, .int .u8 235), (20, .int .u8 156), (21, .int .u8 50), (22, .int .u8 177), (23, .int .u8 253), (24, .int .u8 134), (25, .int .u8 98), (26, .int .u8 5), (27, .int .u8 22), (28, .int .u8 95), (29, .int .u8 73), (30, .int .u8 184), (31, .int .u8 0)] = some (bvals fewc).toArray := by kernel_rfl
set_option maxRecDepth 100000 in
theorem built_few4 : Tryd.prog.built 22 [(0, .int .u8 95), (1, .int .u8 156), (2, .int .u8 149), (3, .int .u8 188), (4, .int .u8 163), (5, .int .u8 80), (6, .int .u8 140), (7, .int .u8 36), (8, .int .u8 177), (9, .int .u8 208), (10, .int .u8 177), (11, .int .u8 85), (12, .int .u8 156), (13, .int .u8 131), (14, .int .u8 239), (15, .int .u8 91), (16, .int .u8 4), (17, .int .u8 68), (18, .int .u8 92), (19, .int .u8 196), (20, .int .u8 88), (21, .int .u8 28), (22, .int .u8 142), (23, .int .u8 134), (24, .int .u8 216), (25, .int .u8 34), (26, .int .u8 78), (27, .int .u8 221), (28, .int .u8 208), (29, .int .u8 159), (30, .int .u8 17), (31, .int .u8 87)] = some (bvals fewd).toArray := by kernel_rfl

theorem num_few0 : unum zeros = 0 := by decide +kernel
theorem num_few1 : unum (upd zeros 0 1) = 1 := by decide +kernel
theorem num_few2 : unum (byteOf (pI - 1)) = pI - 1 := by decide +kernel
theorem num_few3 : unum fewc = 325606250916557431795983626356110631294008115727848805560023387167927233504 := by decide +kernel
theorem num_few4 : unum fewd = 39382357235489614581723060781553021112529911719440698176882885853963445705823 := by decide +kernel

theorem byt_few (i : Int) : Byt (fewv i) := by
  unfold fewv
  split
  · intro j; unfold zeros; decide
  split
  · exact byt_one (by decide)
  split
  · exact byteOf_byt _
  split
  · intro j
    by_cases h : j < 32
    · have k : ∀ m : Fin 32, 0 ≤ fewc m.val ∧ fewc m.val ≤ 255 := by decide +kernel
      exact k ⟨j, h⟩
    · unfold fewc; rw [List.getD_eq_getElem?_getD, List.getElem?_eq_none (by simp; omega)]; decide
  · intro j
    by_cases h : j < 32
    · have k : ∀ m : Fin 32, 0 ≤ fewd m.val ∧ fewd m.val ≤ 255 := by decide +kernel
      exact k ⟨j, h⟩
    · unfold fewd; rw [List.getD_eq_getElem?_getD, List.getElem?_eq_none (by simp; omega)]; decide

theorem thrice (u : Fp) (hu : u = 0 ∨ u = 1 ∨ u = fp (pI - 1) ∨ u = fp 325606250916557431795983626356110631294008115727848805560023387167927233504 ∨ u = fp 39382357235489614581723060781553021112529911719440698176882885853963445705823) : (dbl2 cA (dbl2 cA (dbl2 cA u 1).1 (dbl2 cA u 1).2).1 (dbl2 cA (dbl2 cA u 1).1 (dbl2 cA u 1).2).2).2 = 0 := by
  rcases hu with rfl | rfl | rfl | rfl | rfl <;> decide +kernel

theorem lad_few {f : Nat → Int} (hf : Byt f) {i : Int} (h0 : 0 ≤ i) (h4 : i ≤ 4) : same (lad f (fewv i)) zeros = true := by
  have hu : fp (unum (fewv i)) = 0 ∨ fp (unum (fewv i)) = 1 ∨ fp (unum (fewv i)) = fp (pI - 1) ∨ fp (unum (fewv i)) = fp 325606250916557431795983626356110631294008115727848805560023387167927233504 ∨ fp (unum (fewv i)) = fp 39382357235489614581723060781553021112529911719440698176882885853963445705823 := by
    have : i = 0 ∨ i = 1 ∨ i = 2 ∨ i = 3 ∨ i = 4 := by omega
    rcases this with rfl | rfl | rfl | rfl | rfl
    · left; show fp (unum zeros) = 0; rw [num_few0]; decide +kernel
    · right; left; show fp (unum (upd zeros 0 1)) = 1; rw [num_few1]; decide +kernel
    · right; right; left; show fp (unum (byteOf (pI - 1))) = _; rw [num_few2]
    · right; right; right; left; show fp (unum fewc) = _; rw [num_few3]
    · right; right; right; right; show fp (unum fewd) = _; rw [num_few4]
  have z : fl f (fewv i) = 0 := by
    unfold fl
    exact small_order (clamped hf) (fun _ => thrice _ hu)
  rw [lad_zero z]
  exact (bvals_same _ _).2 rfl

set_option maxRecDepth 100000 in
set_option maxHeartbeats 2000000 in
theorem few_any (i : Int) (h0 : 0 ≤ i) (h4 : i ≤ 4) (w : World) : Calls Tryd.prog 23 #[.int .i64 i] w (RetArr w (fewv i)) := by
  have H := hid (Sto.start w).zeros
  have hi : i = 0 ∨ i = 1 ∨ i = 2 ∨ i = 3 ∨ i = 4 := by omega
  clear h0 h4
  rcases hi with rfl | rfl | rfl | rfl | rfl
  · change Calls Tryd.prog 23 _ w (RetArr w zeros)
    go_enter Tryd.func23, Tryd.ntmps23
    go_wp2_with (first | (refine build_a rfl _ rfl zeros _ (by kernel_rfl) built_zeros ?_) | (refine store_a rfl _ _ rfl w.heap.size zeros rfl rfl [] H.out ?_; intro w2 H2))
    exact ret_a (p := 2) rfl rfl (H2.out.mid []) rfl (RetA.arr ⟨rfl, H2.out.below⟩)
  · change Calls Tryd.prog 23 _ w (RetArr w (upd zeros 0 1))
    go_enter Tryd.func23, Tryd.ntmps23
    go_wp2_with (first | (refine build_a rfl _ rfl (upd zeros 0 1) _ (by kernel_rfl) built_few1 ?_) | (refine store_a rfl _ _ rfl w.heap.size (upd zeros 0 1) rfl rfl [] H.out ?_; intro w2 H2))
    exact ret_a (p := 2) rfl rfl (H2.out.mid []) rfl (RetA.arr ⟨rfl, H2.out.below⟩)
  · change Calls Tryd.prog 23 _ w (RetArr w (byteOf (pI - 1)))
    go_enter Tryd.func23, Tryd.ntmps23
    go_wp2_with (first | (go_at_call 30; (with_reducible refine (prime_any _).mono ?_); rintro e w1 ⟨rfl, hb⟩; replace H := hid (H.out.call hb); clear hb) | (go_at_call 31; (with_reducible refine (small_any 1 (by decide) (by decide) _).mono ?_); rintro e w1 ⟨rfl, hb⟩; replace H := hid (H.out.call hb); clear hb) | (go_at_call 44; (with_reducible refine (rest_any pI 1 (by decide) (by decide) pI_bp _).mono ?_); rintro e w1 ⟨rfl, hb⟩; replace H := hid (H.out.call hb); clear hb) | (go_at_call 37; (with_reducible refine (octets_any (pI - 1) _).mono ?_); rintro e w1 ⟨rfl, hb⟩; replace H := hid (H.out.call hb); clear hb) | (refine store_a rfl _ _ rfl w.heap.size (byteOf (pI - 1)) rfl rfl [] H.out ?_; intro w2 H2))
    exact ret_a (p := 2) rfl rfl (H2.out.mid []) rfl (RetA.arr ⟨rfl, H2.out.below⟩)
  · change Calls Tryd.prog 23 _ w (RetArr w fewc)
    go_enter Tryd.func23, Tryd.ntmps23
    go_wp2_with (first | (refine build_a rfl _ rfl fewc _ (by kernel_rfl) built_few3 ?_) | (refine store_a rfl _ _ rfl w.heap.size fewc rfl rfl [] H.out ?_; intro w2 H2))
    exact ret_a (p := 2) rfl rfl (H2.out.mid []) rfl (RetA.arr ⟨rfl, H2.out.below⟩)
  · change Calls Tryd.prog 23 _ w (RetArr w fewd)
    go_enter Tryd.func23, Tryd.ntmps23
    go_wp2_with (first | (refine build_a rfl _ rfl fewd _ (by kernel_rfl) built_few4 ?_) | (refine store_a rfl _ _ rfl w.heap.size fewd rfl rfl [] H.out ?_; intro w2 H2))
    exact ret_a (p := 2) rfl rfl (H2.out.mid []) rfl (RetA.arr ⟨rfl, H2.out.below⟩)

set_option maxRecDepth 100000 in
set_option maxHeartbeats 4000000 in
theorem fnFew_in (f : Nat → Int) (i : Int) (hf : Byt f) (i0 : 0 ≤ i) (i4 : i ≤ 4) (X : Array Value) (hX : Hid (X = (bvals f).toArray)) (w : World) (h1 : One5 w) :
    Calls Tryd.prog 12 #[.agg X, .int .i64 i] w fun e w' => e = .returned (.bool true) ∧ Below w.heap.size w w' := by
  have H2 : Hid (Byt f) := hid hf
  have H1 : Hid (One5 w) := hid h1
  have HI : Hid (0 ≤ i ∧ i ≤ 4) := hid ⟨i0, i4⟩
  have HL : Hid (same (lad f (fewv i)) zeros = true) := hid (lad_few hf i0 i4)
  clear h1 hf
  have F0 : Hid (Arr (w.alloc (.cells X 22)) w.heap.size f) := hid (by rw [hX.out]; exact heap_alloc_new w _)
  have F3 : Hid (Below w.heap.size w (w.alloc (.cells X 22))) := hid ((Below.refl _ _).alloc (Nat.le_refl _) _)
  go_enter Tryd.func12, Tryd.ntmps12
  go_wp2_with fail
  have P1 : Hid (One5 _) := hid (H1.out.below F3.out)
  generalize hW1 : World.alloc w _ = W1 at F0 F3 P1 ⊢
  clear hW1
  refine region_cut (fun a v => ∃ (m : Nat) (U1 U2 : Array Value), a = ⟨#[.agg X, .int .i64 i, .pointer (some ⟨w.heap.size, 0, none⟩), undef, .bool false, .pointer (some ⟨m, 0, none⟩), .bool false, undef, undef, .int .i64 i, .bool (decide (i < 0)), .bool (decide (i < 0)), .int .i64 i, .bool (decide (4 < i)), .bool (decide (i < 0) || decide (4 < i)), .tuple #[.agg U2, .bool false], .agg X, .int .i64 i, .agg U1, .tuple #[.agg U2, .bool false], .agg U2, .bool false, undef, undef, undef, undef, undef, undef, undef, undef, undef, undef, undef, undef, undef, undef, undef, undef, undef, undef, undef], []⟩ ∧ W1.heap.size ≤ m ∧ Arr v m (lad f (fewv i)) ∧ Below W1.heap.size W1 v) ?_ ?_
  · refine wp_region_held_drew (S := fun v => Below W1.heap.size W1 v) (by kernel_rfl) ((Below.refl _ _).drew) (fun hH0 => ?_)
    refine wpAnyH_take (i := 0) (oi := { dst := some 16, op := Op.load 22 (Operand.tmp 2), type := 22, pos := "ladder.go:90", after := #[], guard := none }) (v := .agg X) rfl (by kernel_rfl) (by kernel_rfl) (by kernel_rfl) (fun _ _ _ h => h) (y_load rfl (.tmp 2) rfl (w.heap.size) f X rfl hX (fun v hv => F0.out.below hv F0.out.size)) hH0 ?_
    try simp only [Act.put, List.setIfInBounds_toArray, List.set_cons_zero, List.set_cons_succ]
    refine wpAnyH_take (i := 1) (oi := { dst := some 17, op := Op.move (Operand.tmp 1), type := 3, pos := "ladder.go:90", after := #[], guard := none }) (v := .int .i64 i) rfl (by kernel_rfl) (by kernel_rfl) (by kernel_rfl) (fun _ _ _ h => h) (Or.inl ⟨rfl, fun v hv => rfl⟩) hH0 ?_
    try simp only [Act.put, List.setIfInBounds_toArray, List.set_cons_zero, List.set_cons_succ]
    refine wpAnyH_ready (rs := [2, 7]) (by kernel_rfl) (by simp) (AllReadyH.cons (o := { dst := some 18, op := Op.call { callee := Callee.value (Operand.func 23), args := #[Operand.tmp 17], argTypes := #[3] }, type := 22, pos := "ladder.go:90", after := #[{ on := 1, ground := Ground.data }], guard := none }) rfl (fun K hK => ?_) (AllReadyH.cons (o := { dst := some 5, op := Op.alloc 22, type := 0, pos := "ladder.go:90", after := #[], guard := none }) rfl (fun K hK => ?_) AllReadyH.nil))
    · go_simp
      go_at_call 23
      refine (few_any i HI.out.1 HI.out.2 _).mono ?_
      rintro e w1 ⟨O1, rfl, hO1, hb1⟩
      go_wp2_with fail
      refine hK.out _ _ (hH0.trans (hb1.out.mono hH0.size)) (fun hH1 => ?_)
      clear hK K
      try simp only [Act.put, List.setIfInBounds_toArray, List.set_cons_zero, List.set_cons_succ]
      refine wpAnyH_ready (rs := [3, 7]) (by kernel_rfl) (by simp) (AllReadyH.cons (o := { dst := some 19, op := Op.call { callee := Callee.value (Operand.func 22), args := #[Operand.tmp 16, Operand.tmp 18], argTypes := #[22, 22] }, type := 32, pos := "ladder.go:90", after := #[{ on := 0, ground := Ground.data }, { on := 2, ground := Ground.data }, { on := 2, ground := Ground.chain }], guard := none }) rfl (fun K hK => ?_) (AllReadyH.cons (o := { dst := some 5, op := Op.alloc 22, type := 0, pos := "ladder.go:90", after := #[], guard := none }) rfl (fun K hK => ?_) AllReadyH.nil))
      · go_simp
        go_at_call 22
        refine (implShared_any f (fewv i) H2.out (byt_few i) X O1 hX hO1 _ (P1.out.below hH1)).mono ?_
        rintro e w2 ⟨O2, rfl, hO2, hb2⟩
        go_wp2_with fail
        refine hK.out _ _ (hH1.trans (hb2.out.mono hH1.size)) (fun hH2 => ?_)
        clear hK K
        try simp only [Act.put, List.setIfInBounds_toArray, List.set_cons_zero, List.set_cons_succ]
        rw [show (!same (lad f (fewv i)) zeros) = false from by rw [HL.out]; rfl]
        refine wpAnyH_take (i := 4) (oi := { dst := some 15, op := Op.move (Operand.tmp 19), type := 32, pos := "ladder.go:90", after := #[{ on := 3, ground := Ground.data }], guard := none }) (v := .tuple #[.agg O2, .bool false]) rfl (by kernel_rfl) (by kernel_rfl) (by kernel_rfl) (fun _ _ _ h => h) (Or.inl ⟨rfl, fun v hv => rfl⟩) hH2 ?_
        try simp only [Act.put, List.setIfInBounds_toArray, List.set_cons_zero, List.set_cons_succ]
        refine wpAnyH_take (i := 5) (oi := { dst := some 20, op := Op.extract (Operand.tmp 15) 0, type := 22, pos := "ladder.go:90", after := #[{ on := 4, ground := Ground.data }], guard := none }) (v := .agg O2) rfl (by kernel_rfl) (by kernel_rfl) (by kernel_rfl) (fun _ _ _ h => h) (Or.inl ⟨rfl, fun v hv => rfl⟩) hH2 ?_
        try simp only [Act.put, List.setIfInBounds_toArray, List.set_cons_zero, List.set_cons_succ]
        refine wpAnyH_take (i := 6) (oi := { dst := some 21, op := Op.extract (Operand.tmp 15) 1, type := 4, pos := "ladder.go:90", after := #[{ on := 4, ground := Ground.data }, { on := 8, ground := Ground.gcOnly Departure.lateStores }], guard := none }) (v := .bool false) rfl (by kernel_rfl) (by kernel_rfl) (by kernel_rfl) (fun _ _ _ h => h) (Or.inl ⟨rfl, fun v hv => rfl⟩) hH2 ?_
        try simp only [Act.put, List.setIfInBounds_toArray, List.set_cons_zero, List.set_cons_succ]
        refine wpAnyH_ready (rs := [7]) (by kernel_rfl) (by simp) (AllReadyH.cons (o := { dst := some 5, op := Op.alloc 22, type := 0, pos := "ladder.go:90", after := #[], guard := none }) rfl (fun K hK => ?_) AllReadyH.nil)
        · go_simp
          go_wp2_with fail
          refine hK.out _ _ (hH2.alloc hH2.size _) (fun hH3 => ?_)
          clear hK K
          try simp only [Act.put, List.setIfInBounds_toArray, List.set_cons_zero, List.set_cons_succ]
          have F3 : Hid ((World.alloc w2 (.cells (List.replicate 32 (Value.int .u8 0)).toArray 22)).heap[w2.heap.size]? = some (.cells (List.replicate 32 (Value.int .u8 0)).toArray 22 (0, 0)) ∧ (List.replicate 32 (Value.int .u8 0)).toArray.size = 32) := hid ⟨heap_alloc_new w2 _, zeros_len⟩
          have hm3 : W1.heap.size ≤ w2.heap.size := hH2.size
          refine wpAnyH_ready (rs := [8]) (by kernel_rfl) (by simp) (AllReadyH.cons (o := { dst := none, op := Op.store 22 (Operand.tmp 5) (Operand.tmp 20), type := 0, pos := "ladder.go:90", after := #[{ on := 7, ground := Ground.data }, { on := 5, ground := Ground.data }, { on := 3, ground := Ground.chain }, { on := 0, ground := Ground.phase }, { on := 1, ground := Ground.phase }, { on := 2, ground := Ground.phase }, { on := 3, ground := Ground.phase }, { on := 4, ground := Ground.phase }, { on := 5, ground := Ground.phase }, { on := 6, ground := Ground.textOnly Departure.lateStores }, { on := 7, ground := Ground.phase }], guard := none }) rfl (fun K hK => ?_) AllReadyH.nil)
          · refine step_store_arr rfl (.tmp 5) (.tmp 20) rfl (w2.heap.size) (lad f (fewv i)) O2 _ rfl rfl F3 hO2 W1.heap.size W1 ⟨hH3, hm3⟩ ?_
            intro w4 AR4 hB4
            refine hK.out _ _ hB4 (fun hH4 => ?_)
            clear hK K
            try simp only [Act.put]
            refine wpAnyH_take (i := 9) (oi := { dst := some 6, op := Op.assign (Operand.tmp 21), type := 4, pos := "ladder.go:90", after := #[{ on := 6, ground := Ground.data }, { on := 8, ground := Ground.chain }, { on := 0, ground := Ground.phase }, { on := 1, ground := Ground.phase }, { on := 2, ground := Ground.phase }, { on := 3, ground := Ground.phase }, { on := 4, ground := Ground.phase }, { on := 5, ground := Ground.phase }, { on := 6, ground := Ground.phase }, { on := 7, ground := Ground.phase }, { on := 8, ground := Ground.phase }], guard := none }) (v := .bool false) rfl (by kernel_rfl) (by kernel_rfl) (by kernel_rfl) (fun _ _ _ h => h) (Or.inl ⟨rfl, fun v hv => rfl⟩) hH4 ?_
            try simp only [Act.put, List.setIfInBounds_toArray, List.set_cons_zero, List.set_cons_succ]
            refine wpAnyH_done (by kernel_rfl) ?_ _
            exact ⟨w2.heap.size, O1, O2, rfl, hm3, AR4, hH4⟩
      · go_simp
        go_wp2_with fail
        refine hK.out _ _ (hH1.alloc hH1.size _) (fun hH5 => ?_)
        clear hK K
        try simp only [Act.put, List.setIfInBounds_toArray, List.set_cons_zero, List.set_cons_succ]
        have F5 : Hid ((World.alloc w1 (.cells (List.replicate 32 (Value.int .u8 0)).toArray 22)).heap[w1.heap.size]? = some (.cells (List.replicate 32 (Value.int .u8 0)).toArray 22 (0, 0)) ∧ (List.replicate 32 (Value.int .u8 0)).toArray.size = 32) := hid ⟨heap_alloc_new w1 _, zeros_len⟩
        have hm5 : W1.heap.size ≤ w1.heap.size := hH1.size
        refine wpAnyH_ready (rs := [3]) (by kernel_rfl) (by simp) (AllReadyH.cons (o := { dst := some 19, op := Op.call { callee := Callee.value (Operand.func 22), args := #[Operand.tmp 16, Operand.tmp 18], argTypes := #[22, 22] }, type := 32, pos := "ladder.go:90", after := #[{ on := 0, ground := Ground.data }, { on := 2, ground := Ground.data }, { on := 2, ground := Ground.chain }], guard := none }) rfl (fun K hK => ?_) AllReadyH.nil)
        · go_simp
          go_at_call 22
          refine (implShared_any f (fewv i) H2.out (byt_few i) X O1 hX hO1 _ (P1.out.below hH5)).mono ?_
          rintro e w6 ⟨O6, rfl, hO6, hb6⟩
          go_wp2_with fail
          refine hK.out _ _ (hH5.trans (hb6.out.mono hH5.size)) (fun hH6 => ?_)
          clear hK K
          try simp only [Act.put, List.setIfInBounds_toArray, List.set_cons_zero, List.set_cons_succ]
          rw [show (!same (lad f (fewv i)) zeros) = false from by rw [HL.out]; rfl]
          have F6 := cells_after F5 hb6
          refine wpAnyH_take (i := 4) (oi := { dst := some 15, op := Op.move (Operand.tmp 19), type := 32, pos := "ladder.go:90", after := #[{ on := 3, ground := Ground.data }], guard := none }) (v := .tuple #[.agg O6, .bool false]) rfl (by kernel_rfl) (by kernel_rfl) (by kernel_rfl) (fun _ _ _ h => h) (Or.inl ⟨rfl, fun v hv => rfl⟩) hH6 ?_
          try simp only [Act.put, List.setIfInBounds_toArray, List.set_cons_zero, List.set_cons_succ]
          refine wpAnyH_take (i := 5) (oi := { dst := some 20, op := Op.extract (Operand.tmp 15) 0, type := 22, pos := "ladder.go:90", after := #[{ on := 4, ground := Ground.data }], guard := none }) (v := .agg O6) rfl (by kernel_rfl) (by kernel_rfl) (by kernel_rfl) (fun _ _ _ h => h) (Or.inl ⟨rfl, fun v hv => rfl⟩) hH6 ?_
          try simp only [Act.put, List.setIfInBounds_toArray, List.set_cons_zero, List.set_cons_succ]
          refine wpAnyH_take (i := 6) (oi := { dst := some 21, op := Op.extract (Operand.tmp 15) 1, type := 4, pos := "ladder.go:90", after := #[{ on := 4, ground := Ground.data }, { on := 8, ground := Ground.gcOnly Departure.lateStores }], guard := none }) (v := .bool false) rfl (by kernel_rfl) (by kernel_rfl) (by kernel_rfl) (fun _ _ _ h => h) (Or.inl ⟨rfl, fun v hv => rfl⟩) hH6 ?_
          try simp only [Act.put, List.setIfInBounds_toArray, List.set_cons_zero, List.set_cons_succ]
          refine wpAnyH_ready (rs := [8]) (by kernel_rfl) (by simp) (AllReadyH.cons (o := { dst := none, op := Op.store 22 (Operand.tmp 5) (Operand.tmp 20), type := 0, pos := "ladder.go:90", after := #[{ on := 7, ground := Ground.data }, { on := 5, ground := Ground.data }, { on := 3, ground := Ground.chain }, { on := 0, ground := Ground.phase }, { on := 1, ground := Ground.phase }, { on := 2, ground := Ground.phase }, { on := 3, ground := Ground.phase }, { on := 4, ground := Ground.phase }, { on := 5, ground := Ground.phase }, { on := 6, ground := Ground.textOnly Departure.lateStores }, { on := 7, ground := Ground.phase }], guard := none }) rfl (fun K hK => ?_) AllReadyH.nil)
          · refine step_store_arr rfl (.tmp 5) (.tmp 20) rfl (w1.heap.size) (lad f (fewv i)) O6 _ rfl rfl F6 hO6 W1.heap.size W1 ⟨hH6, hm5⟩ ?_
            intro w7 AR7 hB7
            refine hK.out _ _ hB7 (fun hH7 => ?_)
            clear hK K
            try simp only [Act.put]
            refine wpAnyH_take (i := 9) (oi := { dst := some 6, op := Op.assign (Operand.tmp 21), type := 4, pos := "ladder.go:90", after := #[{ on := 6, ground := Ground.data }, { on := 8, ground := Ground.chain }, { on := 0, ground := Ground.phase }, { on := 1, ground := Ground.phase }, { on := 2, ground := Ground.phase }, { on := 3, ground := Ground.phase }, { on := 4, ground := Ground.phase }, { on := 5, ground := Ground.phase }, { on := 6, ground := Ground.phase }, { on := 7, ground := Ground.phase }, { on := 8, ground := Ground.phase }], guard := none }) (v := .bool false) rfl (by kernel_rfl) (by kernel_rfl) (by kernel_rfl) (fun _ _ _ h => h) (Or.inl ⟨rfl, fun v hv => rfl⟩) hH7 ?_
            try simp only [Act.put, List.setIfInBounds_toArray, List.set_cons_zero, List.set_cons_succ]
            refine wpAnyH_done (by kernel_rfl) ?_ _
            exact ⟨w1.heap.size, O1, O6, rfl, hm5, AR7, hH7⟩
    · go_simp
      go_wp2_with fail
      refine hK.out _ _ (hH0.alloc hH0.size _) (fun hH8 => ?_)
      clear hK K
      try simp only [Act.put, List.setIfInBounds_toArray, List.set_cons_zero, List.set_cons_succ]
      have F8 : Hid ((World.alloc W1.drew (.cells (List.replicate 32 (Value.int .u8 0)).toArray 22)).heap[W1.drew.heap.size]? = some (.cells (List.replicate 32 (Value.int .u8 0)).toArray 22 (0, 0)) ∧ (List.replicate 32 (Value.int .u8 0)).toArray.size = 32) := hid ⟨heap_alloc_new W1.drew _, zeros_len⟩
      have hm8 : W1.heap.size ≤ W1.drew.heap.size := hH0.size
      refine wpAnyH_ready (rs := [2]) (by kernel_rfl) (by simp) (AllReadyH.cons (o := { dst := some 18, op := Op.call { callee := Callee.value (Operand.func 23), args := #[Operand.tmp 17], argTypes := #[3] }, type := 22, pos := "ladder.go:90", after := #[{ on := 1, ground := Ground.data }], guard := none }) rfl (fun K hK => ?_) AllReadyH.nil)
      · go_simp
        go_at_call 23
        refine (few_any i HI.out.1 HI.out.2 _).mono ?_
        rintro e w9 ⟨O9, rfl, hO9, hb9⟩
        go_wp2_with fail
        refine hK.out _ _ (hH8.trans (hb9.out.mono hH8.size)) (fun hH9 => ?_)
        clear hK K
        try simp only [Act.put, List.setIfInBounds_toArray, List.set_cons_zero, List.set_cons_succ]
        have F9 := cells_after F8 hb9
        refine wpAnyH_ready (rs := [3]) (by kernel_rfl) (by simp) (AllReadyH.cons (o := { dst := some 19, op := Op.call { callee := Callee.value (Operand.func 22), args := #[Operand.tmp 16, Operand.tmp 18], argTypes := #[22, 22] }, type := 32, pos := "ladder.go:90", after := #[{ on := 0, ground := Ground.data }, { on := 2, ground := Ground.data }, { on := 2, ground := Ground.chain }], guard := none }) rfl (fun K hK => ?_) AllReadyH.nil)
        · go_simp
          go_at_call 22
          refine (implShared_any f (fewv i) H2.out (byt_few i) X O9 hX hO9 _ (P1.out.below hH9)).mono ?_
          rintro e w10 ⟨O10, rfl, hO10, hb10⟩
          go_wp2_with fail
          refine hK.out _ _ (hH9.trans (hb10.out.mono hH9.size)) (fun hH10 => ?_)
          clear hK K
          try simp only [Act.put, List.setIfInBounds_toArray, List.set_cons_zero, List.set_cons_succ]
          rw [show (!same (lad f (fewv i)) zeros) = false from by rw [HL.out]; rfl]
          have F10 := cells_after F9 hb10
          refine wpAnyH_take (i := 4) (oi := { dst := some 15, op := Op.move (Operand.tmp 19), type := 32, pos := "ladder.go:90", after := #[{ on := 3, ground := Ground.data }], guard := none }) (v := .tuple #[.agg O10, .bool false]) rfl (by kernel_rfl) (by kernel_rfl) (by kernel_rfl) (fun _ _ _ h => h) (Or.inl ⟨rfl, fun v hv => rfl⟩) hH10 ?_
          try simp only [Act.put, List.setIfInBounds_toArray, List.set_cons_zero, List.set_cons_succ]
          refine wpAnyH_take (i := 5) (oi := { dst := some 20, op := Op.extract (Operand.tmp 15) 0, type := 22, pos := "ladder.go:90", after := #[{ on := 4, ground := Ground.data }], guard := none }) (v := .agg O10) rfl (by kernel_rfl) (by kernel_rfl) (by kernel_rfl) (fun _ _ _ h => h) (Or.inl ⟨rfl, fun v hv => rfl⟩) hH10 ?_
          try simp only [Act.put, List.setIfInBounds_toArray, List.set_cons_zero, List.set_cons_succ]
          refine wpAnyH_take (i := 6) (oi := { dst := some 21, op := Op.extract (Operand.tmp 15) 1, type := 4, pos := "ladder.go:90", after := #[{ on := 4, ground := Ground.data }, { on := 8, ground := Ground.gcOnly Departure.lateStores }], guard := none }) (v := .bool false) rfl (by kernel_rfl) (by kernel_rfl) (by kernel_rfl) (fun _ _ _ h => h) (Or.inl ⟨rfl, fun v hv => rfl⟩) hH10 ?_
          try simp only [Act.put, List.setIfInBounds_toArray, List.set_cons_zero, List.set_cons_succ]
          refine wpAnyH_ready (rs := [8]) (by kernel_rfl) (by simp) (AllReadyH.cons (o := { dst := none, op := Op.store 22 (Operand.tmp 5) (Operand.tmp 20), type := 0, pos := "ladder.go:90", after := #[{ on := 7, ground := Ground.data }, { on := 5, ground := Ground.data }, { on := 3, ground := Ground.chain }, { on := 0, ground := Ground.phase }, { on := 1, ground := Ground.phase }, { on := 2, ground := Ground.phase }, { on := 3, ground := Ground.phase }, { on := 4, ground := Ground.phase }, { on := 5, ground := Ground.phase }, { on := 6, ground := Ground.textOnly Departure.lateStores }, { on := 7, ground := Ground.phase }], guard := none }) rfl (fun K hK => ?_) AllReadyH.nil)
          · refine step_store_arr rfl (.tmp 5) (.tmp 20) rfl (W1.drew.heap.size) (lad f (fewv i)) O10 _ rfl rfl F10 hO10 W1.heap.size W1 ⟨hH10, hm8⟩ ?_
            intro w11 AR11 hB11
            refine hK.out _ _ hB11 (fun hH11 => ?_)
            clear hK K
            try simp only [Act.put]
            refine wpAnyH_take (i := 9) (oi := { dst := some 6, op := Op.assign (Operand.tmp 21), type := 4, pos := "ladder.go:90", after := #[{ on := 6, ground := Ground.data }, { on := 8, ground := Ground.chain }, { on := 0, ground := Ground.phase }, { on := 1, ground := Ground.phase }, { on := 2, ground := Ground.phase }, { on := 3, ground := Ground.phase }, { on := 4, ground := Ground.phase }, { on := 5, ground := Ground.phase }, { on := 6, ground := Ground.phase }, { on := 7, ground := Ground.phase }, { on := 8, ground := Ground.phase }], guard := none }) (v := .bool false) rfl (by kernel_rfl) (by kernel_rfl) (by kernel_rfl) (fun _ _ _ h => h) (Or.inl ⟨rfl, fun v hv => rfl⟩) hH11 ?_
            try simp only [Act.put, List.setIfInBounds_toArray, List.set_cons_zero, List.set_cons_succ]
            refine wpAnyH_done (by kernel_rfl) ?_ _
            exact ⟨W1.drew.heap.size, O9, O10, rfl, hm8, AR11, hH11⟩
  rintro _ W2 ⟨m, U1, U2, rfl, hm, hAm, hB2⟩
  replace F0 : Hid (Arr W2 w.heap.size f) := hid (F0.out.below hB2 F0.out.size)
  replace F3 : Hid (Below w.heap.size w W2) := hid (F3.out.trans (hB2.mono F3.out.size))
  replace P1 : Hid (One5 W2) := hid (P1.out.below hB2)
  clear hm hAm hB2 W1
  go_wp2_with fail
  refine region_cut (fun a v => ∃ (m2 : Nat) (U3 U4 : Array Value), a = ⟨#[.agg X, .int .i64 i, .pointer (some ⟨w.heap.size, 0, none⟩), undef, .bool false, .pointer (some ⟨m, 0, none⟩), .bool false, .pointer (some ⟨m2, 0, none⟩), .bool true, .int .i64 i, .bool (decide (i < 0)), .bool (decide (i < 0)), .int .i64 i, .bool (decide (4 < i)), .bool (decide (i < 0) || decide (4 < i)), .tuple #[.agg U2, .bool false], .agg X, .int .i64 i, .agg U1, .tuple #[.agg U2, .bool false], .agg U2, .bool false, .tuple #[.agg U4, .bool true], .agg X, .agg U3, .tuple #[.agg U4, .bool true], .agg U4, .bool true, undef, undef, undef, undef, undef, undef, undef, undef, undef, undef, undef, undef, undef], []⟩ ∧ W2.heap.size ≤ m2 ∧ Arr v m2 (lad f nine) ∧ Below W2.heap.size W2 v) ?_ ?_
  · refine wp_region_held_drew (S := fun v => Below W2.heap.size W2 v) (by kernel_rfl) ((Below.refl _ _).drew) (fun hH0 => ?_)
    refine wpAnyH_take (i := 0) (oi := { dst := some 23, op := Op.load 22 (Operand.tmp 2), type := 22, pos := "ladder.go:91", after := #[], guard := none }) (v := .agg X) rfl (by kernel_rfl) (by kernel_rfl) (by kernel_rfl) (fun _ _ _ h => h) (y_load rfl (.tmp 2) rfl (w.heap.size) f X rfl hX (fun v hv => F0.out.below hv F0.out.size)) hH0 ?_
    try simp only [Act.put, List.setIfInBounds_toArray, List.set_cons_zero, List.set_cons_succ]
    refine wpAnyH_ready (rs := [1, 6]) (by kernel_rfl) (by simp) (AllReadyH.cons (o := { dst := some 24, op := Op.call { callee := Callee.value (Operand.func 19), args := #[], argTypes := #[] }, type := 22, pos := "ladder.go:91", after := #[], guard := none }) rfl (fun K hK => ?_) (AllReadyH.cons (o := { dst := some 7, op := Op.alloc 22, type := 0, pos := "ladder.go:91", after := #[], guard := none }) rfl (fun K hK => ?_) AllReadyH.nil))
    · go_simp
      go_at_call 19
      refine (nine_any _).mono ?_
      rintro e w1 ⟨O1, rfl, hO1, hb1⟩
      go_wp2_with fail
      refine hK.out _ _ (hH0.trans (hb1.out.mono hH0.size)) (fun hH1 => ?_)
      clear hK K
      try simp only [Act.put, List.setIfInBounds_toArray, List.set_cons_zero, List.set_cons_succ]
      refine wpAnyH_ready (rs := [2, 6]) (by kernel_rfl) (by simp) (AllReadyH.cons (o := { dst := some 25, op := Op.call { callee := Callee.value (Operand.func 22), args := #[Operand.tmp 23, Operand.tmp 24], argTypes := #[22, 22] }, type := 32, pos := "ladder.go:91", after := #[{ on := 0, ground := Ground.data }, { on := 1, ground := Ground.data }, { on := 1, ground := Ground.chain }], guard := none }) rfl (fun K hK => ?_) (AllReadyH.cons (o := { dst := some 7, op := Op.alloc 22, type := 0, pos := "ladder.go:91", after := #[], guard := none }) rfl (fun K hK => ?_) AllReadyH.nil))
      · go_simp
        go_at_call 22
        refine (implShared_any f nine H2.out nine_byt X O1 hX hO1 _ (P1.out.below hH1)).mono ?_
        rintro e w2 ⟨O2, rfl, hO2, hb2⟩
        go_wp2_with fail
        refine hK.out _ _ (hH1.trans (hb2.out.mono hH1.size)) (fun hH2 => ?_)
        clear hK K
        try simp only [Act.put, List.setIfInBounds_toArray, List.set_cons_zero, List.set_cons_succ]
        rw [show (!same (lad f nine) zeros) = true from (same_ne (lad_nine H2.out)).symm]
        refine wpAnyH_take (i := 3) (oi := { dst := some 22, op := Op.move (Operand.tmp 25), type := 32, pos := "ladder.go:91", after := #[{ on := 2, ground := Ground.data }], guard := none }) (v := .tuple #[.agg O2, .bool true]) rfl (by kernel_rfl) (by kernel_rfl) (by kernel_rfl) (fun _ _ _ h => h) (Or.inl ⟨rfl, fun v hv => rfl⟩) hH2 ?_
        try simp only [Act.put, List.setIfInBounds_toArray, List.set_cons_zero, List.set_cons_succ]
        refine wpAnyH_take (i := 4) (oi := { dst := some 26, op := Op.extract (Operand.tmp 22) 0, type := 22, pos := "ladder.go:91", after := #[{ on := 3, ground := Ground.data }], guard := none }) (v := .agg O2) rfl (by kernel_rfl) (by kernel_rfl) (by kernel_rfl) (fun _ _ _ h => h) (Or.inl ⟨rfl, fun v hv => rfl⟩) hH2 ?_
        try simp only [Act.put, List.setIfInBounds_toArray, List.set_cons_zero, List.set_cons_succ]
        refine wpAnyH_take (i := 5) (oi := { dst := some 27, op := Op.extract (Operand.tmp 22) 1, type := 4, pos := "ladder.go:91", after := #[{ on := 3, ground := Ground.data }, { on := 7, ground := Ground.gcOnly Departure.lateStores }], guard := none }) (v := .bool true) rfl (by kernel_rfl) (by kernel_rfl) (by kernel_rfl) (fun _ _ _ h => h) (Or.inl ⟨rfl, fun v hv => rfl⟩) hH2 ?_
        try simp only [Act.put, List.setIfInBounds_toArray, List.set_cons_zero, List.set_cons_succ]
        refine wpAnyH_ready (rs := [6]) (by kernel_rfl) (by simp) (AllReadyH.cons (o := { dst := some 7, op := Op.alloc 22, type := 0, pos := "ladder.go:91", after := #[], guard := none }) rfl (fun K hK => ?_) AllReadyH.nil)
        · go_simp
          go_wp2_with fail
          refine hK.out _ _ (hH2.alloc hH2.size _) (fun hH3 => ?_)
          clear hK K
          try simp only [Act.put, List.setIfInBounds_toArray, List.set_cons_zero, List.set_cons_succ]
          have F3 : Hid ((World.alloc w2 (.cells (List.replicate 32 (Value.int .u8 0)).toArray 22)).heap[w2.heap.size]? = some (.cells (List.replicate 32 (Value.int .u8 0)).toArray 22 (0, 0)) ∧ (List.replicate 32 (Value.int .u8 0)).toArray.size = 32) := hid ⟨heap_alloc_new w2 _, zeros_len⟩
          have hm3 : W2.heap.size ≤ w2.heap.size := hH2.size
          refine wpAnyH_ready (rs := [7]) (by kernel_rfl) (by simp) (AllReadyH.cons (o := { dst := none, op := Op.store 22 (Operand.tmp 7) (Operand.tmp 26), type := 0, pos := "ladder.go:91", after := #[{ on := 6, ground := Ground.data }, { on := 4, ground := Ground.data }, { on := 2, ground := Ground.chain }, { on := 0, ground := Ground.phase }, { on := 1, ground := Ground.phase }, { on := 2, ground := Ground.phase }, { on := 3, ground := Ground.phase }, { on := 4, ground := Ground.phase }, { on := 5, ground := Ground.textOnly Departure.lateStores }, { on := 6, ground := Ground.phase }], guard := none }) rfl (fun K hK => ?_) AllReadyH.nil)
          · refine step_store_arr rfl (.tmp 7) (.tmp 26) rfl (w2.heap.size) (lad f nine) O2 _ rfl rfl F3 hO2 W2.heap.size W2 ⟨hH3, hm3⟩ ?_
            intro w4 AR4 hB4
            refine hK.out _ _ hB4 (fun hH4 => ?_)
            clear hK K
            try simp only [Act.put]
            refine wpAnyH_take (i := 8) (oi := { dst := some 8, op := Op.assign (Operand.tmp 27), type := 4, pos := "ladder.go:91", after := #[{ on := 5, ground := Ground.data }, { on := 7, ground := Ground.chain }, { on := 0, ground := Ground.phase }, { on := 1, ground := Ground.phase }, { on := 2, ground := Ground.phase }, { on := 3, ground := Ground.phase }, { on := 4, ground := Ground.phase }, { on := 5, ground := Ground.phase }, { on := 6, ground := Ground.phase }, { on := 7, ground := Ground.phase }], guard := none }) (v := .bool true) rfl (by kernel_rfl) (by kernel_rfl) (by kernel_rfl) (fun _ _ _ h => h) (Or.inl ⟨rfl, fun v hv => rfl⟩) hH4 ?_
            try simp only [Act.put, List.setIfInBounds_toArray, List.set_cons_zero, List.set_cons_succ]
            refine wpAnyH_done (by kernel_rfl) ?_ _
            exact ⟨w2.heap.size, O1, O2, rfl, hm3, AR4, hH4⟩
      · go_simp
        go_wp2_with fail
        refine hK.out _ _ (hH1.alloc hH1.size _) (fun hH5 => ?_)
        clear hK K
        try simp only [Act.put, List.setIfInBounds_toArray, List.set_cons_zero, List.set_cons_succ]
        have F5 : Hid ((World.alloc w1 (.cells (List.replicate 32 (Value.int .u8 0)).toArray 22)).heap[w1.heap.size]? = some (.cells (List.replicate 32 (Value.int .u8 0)).toArray 22 (0, 0)) ∧ (List.replicate 32 (Value.int .u8 0)).toArray.size = 32) := hid ⟨heap_alloc_new w1 _, zeros_len⟩
        have hm5 : W2.heap.size ≤ w1.heap.size := hH1.size
        refine wpAnyH_ready (rs := [2]) (by kernel_rfl) (by simp) (AllReadyH.cons (o := { dst := some 25, op := Op.call { callee := Callee.value (Operand.func 22), args := #[Operand.tmp 23, Operand.tmp 24], argTypes := #[22, 22] }, type := 32, pos := "ladder.go:91", after := #[{ on := 0, ground := Ground.data }, { on := 1, ground := Ground.data }, { on := 1, ground := Ground.chain }], guard := none }) rfl (fun K hK => ?_) AllReadyH.nil)
        · go_simp
          go_at_call 22
          refine (implShared_any f nine H2.out nine_byt X O1 hX hO1 _ (P1.out.below hH5)).mono ?_
          rintro e w6 ⟨O6, rfl, hO6, hb6⟩
          go_wp2_with fail
          refine hK.out _ _ (hH5.trans (hb6.out.mono hH5.size)) (fun hH6 => ?_)
          clear hK K
          try simp only [Act.put, List.setIfInBounds_toArray, List.set_cons_zero, List.set_cons_succ]
          rw [show (!same (lad f nine) zeros) = true from (same_ne (lad_nine H2.out)).symm]
          have F6 := cells_after F5 hb6
          refine wpAnyH_take (i := 3) (oi := { dst := some 22, op := Op.move (Operand.tmp 25), type := 32, pos := "ladder.go:91", after := #[{ on := 2, ground := Ground.data }], guard := none }) (v := .tuple #[.agg O6, .bool true]) rfl (by kernel_rfl) (by kernel_rfl) (by kernel_rfl) (fun _ _ _ h => h) (Or.inl ⟨rfl, fun v hv => rfl⟩) hH6 ?_
          try simp only [Act.put, List.setIfInBounds_toArray, List.set_cons_zero, List.set_cons_succ]
          refine wpAnyH_take (i := 4) (oi := { dst := some 26, op := Op.extract (Operand.tmp 22) 0, type := 22, pos := "ladder.go:91", after := #[{ on := 3, ground := Ground.data }], guard := none }) (v := .agg O6) rfl (by kernel_rfl) (by kernel_rfl) (by kernel_rfl) (fun _ _ _ h => h) (Or.inl ⟨rfl, fun v hv => rfl⟩) hH6 ?_
          try simp only [Act.put, List.setIfInBounds_toArray, List.set_cons_zero, List.set_cons_succ]
          refine wpAnyH_take (i := 5) (oi := { dst := some 27, op := Op.extract (Operand.tmp 22) 1, type := 4, pos := "ladder.go:91", after := #[{ on := 3, ground := Ground.data }, { on := 7, ground := Ground.gcOnly Departure.lateStores }], guard := none }) (v := .bool true) rfl (by kernel_rfl) (by kernel_rfl) (by kernel_rfl) (fun _ _ _ h => h) (Or.inl ⟨rfl, fun v hv => rfl⟩) hH6 ?_
          try simp only [Act.put, List.setIfInBounds_toArray, List.set_cons_zero, List.set_cons_succ]
          refine wpAnyH_ready (rs := [7]) (by kernel_rfl) (by simp) (AllReadyH.cons (o := { dst := none, op := Op.store 22 (Operand.tmp 7) (Operand.tmp 26), type := 0, pos := "ladder.go:91", after := #[{ on := 6, ground := Ground.data }, { on := 4, ground := Ground.data }, { on := 2, ground := Ground.chain }, { on := 0, ground := Ground.phase }, { on := 1, ground := Ground.phase }, { on := 2, ground := Ground.phase }, { on := 3, ground := Ground.phase }, { on := 4, ground := Ground.phase }, { on := 5, ground := Ground.textOnly Departure.lateStores }, { on := 6, ground := Ground.phase }], guard := none }) rfl (fun K hK => ?_) AllReadyH.nil)
          · refine step_store_arr rfl (.tmp 7) (.tmp 26) rfl (w1.heap.size) (lad f nine) O6 _ rfl rfl F6 hO6 W2.heap.size W2 ⟨hH6, hm5⟩ ?_
            intro w7 AR7 hB7
            refine hK.out _ _ hB7 (fun hH7 => ?_)
            clear hK K
            try simp only [Act.put]
            refine wpAnyH_take (i := 8) (oi := { dst := some 8, op := Op.assign (Operand.tmp 27), type := 4, pos := "ladder.go:91", after := #[{ on := 5, ground := Ground.data }, { on := 7, ground := Ground.chain }, { on := 0, ground := Ground.phase }, { on := 1, ground := Ground.phase }, { on := 2, ground := Ground.phase }, { on := 3, ground := Ground.phase }, { on := 4, ground := Ground.phase }, { on := 5, ground := Ground.phase }, { on := 6, ground := Ground.phase }, { on := 7, ground := Ground.phase }], guard := none }) (v := .bool true) rfl (by kernel_rfl) (by kernel_rfl) (by kernel_rfl) (fun _ _ _ h => h) (Or.inl ⟨rfl, fun v hv => rfl⟩) hH7 ?_
            try simp only [Act.put, List.setIfInBounds_toArray, List.set_cons_zero, List.set_cons_succ]
            refine wpAnyH_done (by kernel_rfl) ?_ _
            exact ⟨w1.heap.size, O1, O6, rfl, hm5, AR7, hH7⟩
    · go_simp
      go_wp2_with fail
      refine hK.out _ _ (hH0.alloc hH0.size _) (fun hH8 => ?_)
      clear hK K
      try simp only [Act.put, List.setIfInBounds_toArray, List.set_cons_zero, List.set_cons_succ]
      have F8 : Hid ((World.alloc W2.drew (.cells (List.replicate 32 (Value.int .u8 0)).toArray 22)).heap[W2.drew.heap.size]? = some (.cells (List.replicate 32 (Value.int .u8 0)).toArray 22 (0, 0)) ∧ (List.replicate 32 (Value.int .u8 0)).toArray.size = 32) := hid ⟨heap_alloc_new W2.drew _, zeros_len⟩
      have hm8 : W2.heap.size ≤ W2.drew.heap.size := hH0.size
      refine wpAnyH_ready (rs := [1]) (by kernel_rfl) (by simp) (AllReadyH.cons (o := { dst := some 24, op := Op.call { callee := Callee.value (Operand.func 19), args := #[], argTypes := #[] }, type := 22, pos := "ladder.go:91", after := #[], guard := none }) rfl (fun K hK => ?_) AllReadyH.nil)
      · go_simp
        go_at_call 19
        refine (nine_any _).mono ?_
        rintro e w9 ⟨O9, rfl, hO9, hb9⟩
        go_wp2_with fail
        refine hK.out _ _ (hH8.trans (hb9.out.mono hH8.size)) (fun hH9 => ?_)
        clear hK K
        try simp only [Act.put, List.setIfInBounds_toArray, List.set_cons_zero, List.set_cons_succ]
        have F9 := cells_after F8 hb9
        refine wpAnyH_ready (rs := [2]) (by kernel_rfl) (by simp) (AllReadyH.cons (o := { dst := some 25, op := Op.call { callee := Callee.value (Operand.func 22), args := #[Operand.tmp 23, Operand.tmp 24], argTypes := #[22, 22] }, type := 32, pos := "ladder.go:91", after := #[{ on := 0, ground := Ground.data }, { on := 1, ground := Ground.data }, { on := 1, ground := Ground.chain }], guard := none }) rfl (fun K hK => ?_) AllReadyH.nil)
        · go_simp
          go_at_call 22
          refine (implShared_any f nine H2.out nine_byt X O9 hX hO9 _ (P1.out.below hH9)).mono ?_
          rintro e w10 ⟨O10, rfl, hO10, hb10⟩
          go_wp2_with fail
          refine hK.out _ _ (hH9.trans (hb10.out.mono hH9.size)) (fun hH10 => ?_)
          clear hK K
          try simp only [Act.put, List.setIfInBounds_toArray, List.set_cons_zero, List.set_cons_succ]
          rw [show (!same (lad f nine) zeros) = true from (same_ne (lad_nine H2.out)).symm]
          have F10 := cells_after F9 hb10
          refine wpAnyH_take (i := 3) (oi := { dst := some 22, op := Op.move (Operand.tmp 25), type := 32, pos := "ladder.go:91", after := #[{ on := 2, ground := Ground.data }], guard := none }) (v := .tuple #[.agg O10, .bool true]) rfl (by kernel_rfl) (by kernel_rfl) (by kernel_rfl) (fun _ _ _ h => h) (Or.inl ⟨rfl, fun v hv => rfl⟩) hH10 ?_
          try simp only [Act.put, List.setIfInBounds_toArray, List.set_cons_zero, List.set_cons_succ]
          refine wpAnyH_take (i := 4) (oi := { dst := some 26, op := Op.extract (Operand.tmp 22) 0, type := 22, pos := "ladder.go:91", after := #[{ on := 3, ground := Ground.data }], guard := none }) (v := .agg O10) rfl (by kernel_rfl) (by kernel_rfl) (by kernel_rfl) (fun _ _ _ h => h) (Or.inl ⟨rfl, fun v hv => rfl⟩) hH10 ?_
          try simp only [Act.put, List.setIfInBounds_toArray, List.set_cons_zero, List.set_cons_succ]
          refine wpAnyH_take (i := 5) (oi := { dst := some 27, op := Op.extract (Operand.tmp 22) 1, type := 4, pos := "ladder.go:91", after := #[{ on := 3, ground := Ground.data }, { on := 7, ground := Ground.gcOnly Departure.lateStores }], guard := none }) (v := .bool true) rfl (by kernel_rfl) (by kernel_rfl) (by kernel_rfl) (fun _ _ _ h => h) (Or.inl ⟨rfl, fun v hv => rfl⟩) hH10 ?_
          try simp only [Act.put, List.setIfInBounds_toArray, List.set_cons_zero, List.set_cons_succ]
          refine wpAnyH_ready (rs := [7]) (by kernel_rfl) (by simp) (AllReadyH.cons (o := { dst := none, op := Op.store 22 (Operand.tmp 7) (Operand.tmp 26), type := 0, pos := "ladder.go:91", after := #[{ on := 6, ground := Ground.data }, { on := 4, ground := Ground.data }, { on := 2, ground := Ground.chain }, { on := 0, ground := Ground.phase }, { on := 1, ground := Ground.phase }, { on := 2, ground := Ground.phase }, { on := 3, ground := Ground.phase }, { on := 4, ground := Ground.phase }, { on := 5, ground := Ground.textOnly Departure.lateStores }, { on := 6, ground := Ground.phase }], guard := none }) rfl (fun K hK => ?_) AllReadyH.nil)
          · refine step_store_arr rfl (.tmp 7) (.tmp 26) rfl (W2.drew.heap.size) (lad f nine) O10 _ rfl rfl F10 hO10 W2.heap.size W2 ⟨hH10, hm8⟩ ?_
            intro w11 AR11 hB11
            refine hK.out _ _ hB11 (fun hH11 => ?_)
            clear hK K
            try simp only [Act.put]
            refine wpAnyH_take (i := 8) (oi := { dst := some 8, op := Op.assign (Operand.tmp 27), type := 4, pos := "ladder.go:91", after := #[{ on := 5, ground := Ground.data }, { on := 7, ground := Ground.chain }, { on := 0, ground := Ground.phase }, { on := 1, ground := Ground.phase }, { on := 2, ground := Ground.phase }, { on := 3, ground := Ground.phase }, { on := 4, ground := Ground.phase }, { on := 5, ground := Ground.phase }, { on := 6, ground := Ground.phase }, { on := 7, ground := Ground.phase }], guard := none }) (v := .bool true) rfl (by kernel_rfl) (by kernel_rfl) (by kernel_rfl) (fun _ _ _ h => h) (Or.inl ⟨rfl, fun v hv => rfl⟩) hH11 ?_
            try simp only [Act.put, List.setIfInBounds_toArray, List.set_cons_zero, List.set_cons_succ]
            refine wpAnyH_done (by kernel_rfl) ?_ _
            exact ⟨W2.drew.heap.size, O9, O10, rfl, hm8, AR11, hH11⟩
  rintro _ W3 ⟨m2, U3, U4, rfl, hm, hAm, hB2⟩
  replace F0 : Hid (Arr W3 w.heap.size f) := hid (F0.out.below hB2 F0.out.size)
  replace F3 : Hid (Below w.heap.size w W3) := hid (F3.out.trans (hB2.mono F3.out.size))
  replace P1 : Hid (One5 W3) := hid (P1.out.below hB2)
  clear hm hAm hB2 W2
  obtain ⟨N, hN⟩ : ∃ N, N = (bvals zeros).toArray := ⟨_, rfl⟩
  have HN : Hid (N = (bvals zeros).toArray) := hid hN
  clear hN
  go_wp2_with fail
  refine wp_region_held_drew (S := fun v => Arr v (w.heap.size) f ∧ One5 v ∧ Below w.heap.size w v) (by kernel_rfl) (⟨F0.out, P1.out, F3.out.drew⟩) (fun hH0 => ?_)
  refine wpAnyH_take (i := 0) (oi := { dst := some 28, op := Op.load 22 (Operand.tmp 2), type := 22, pos := "ladder.go:92", after := #[], guard := none }) (v := .agg X) rfl (by kernel_rfl) (by kernel_rfl) (by kernel_rfl) (fun _ _ _ h => h) (y_load rfl (.tmp 2) rfl (w.heap.size) f X rfl hX (fun v hv => hv.1)) hH0 ?_
  try simp only [Act.put, List.setIfInBounds_toArray, List.set_cons_zero, List.set_cons_succ]
  refine wpAnyH_take (i := 1) (oi := { dst := some 29, op := Op.move (Operand.tmp 1), type := 3, pos := "ladder.go:92", after := #[], guard := none }) (v := .int .i64 i) rfl (by kernel_rfl) (by kernel_rfl) (by kernel_rfl) (fun _ _ _ h => h) (Or.inl ⟨rfl, fun v hv => rfl⟩) hH0 ?_
  try simp only [Act.put, List.setIfInBounds_toArray, List.set_cons_zero, List.set_cons_succ]
  refine wpAnyH_take (i := 4) (oi := { dst := some 32, op := Op.build 22 #[], type := 22, pos := "ladder.go:92", after := #[], guard := none }) (v := .agg N) rfl (by kernel_rfl) (by kernel_rfl) (by kernel_rfl) (fun _ _ _ h => h) (y_build rfl _ rfl zeros N HN (by kernel_rfl)) hH0 ?_
  try simp only [Act.put, List.setIfInBounds_toArray, List.set_cons_zero, List.set_cons_succ]
  refine wpAnyH_ready (rs := [2]) (by kernel_rfl) (by simp) (AllReadyH.cons (o := { dst := some 30, op := Op.call { callee := Callee.value (Operand.func 23), args := #[Operand.tmp 29], argTypes := #[3] }, type := 22, pos := "ladder.go:92", after := #[{ on := 1, ground := Ground.data }], guard := none }) rfl (fun K hK => ?_) AllReadyH.nil)
  go_simp
  go_at_call 23
  refine (few_any i HI.out.1 HI.out.2 _).mono ?_
  rintro e w1 ⟨O1, rfl, hO1, hb1⟩
  go_wp2_with fail
  refine hK.out _ _ ⟨hH0.1.below hb1.out hH0.1.size, hH0.2.1.below hb1.out, hH0.2.2.trans (hb1.out.mono hH0.2.2.size)⟩ (fun hH1 => ?_)
  clear hK K
  try simp only [Act.put, List.setIfInBounds_toArray, List.set_cons_zero, List.set_cons_succ]
  refine wpAnyH_ready (rs := [3]) (by kernel_rfl) (by simp) (AllReadyH.cons (o := { dst := some 31, op := Op.call { callee := Callee.value (Operand.func 16), args := #[Operand.tmp 28, Operand.tmp 30], argTypes := #[22, 22] }, type := 22, pos := "ladder.go:92", after := #[{ on := 0, ground := Ground.data }, { on := 2, ground := Ground.data }, { on := 2, ground := Ground.chain }], guard := none }) rfl (fun K hK => ?_) AllReadyH.nil)
  go_simp
  go_at_call 16
  refine (implMult_any f (fewv i) H2.out (byt_few i) X O1 hX hO1 _ hH1.2.1).mono ?_
  rintro e w2 ⟨O2, rfl, hO2, hb2⟩
  go_wp2_with fail
  refine hK.out _ _ ⟨hH1.1.below hb2.out hH1.1.size, hH1.2.1.below hb2.out, hH1.2.2.trans (hb2.out.mono hH1.2.2.size)⟩ (fun hH2 => ?_)
  clear hK K
  try simp only [Act.put, List.setIfInBounds_toArray, List.set_cons_zero, List.set_cons_succ]
  refine wpAnyH_take (i := 5) (oi := { dst := some 33, op := Op.binOp BinOp.eql 22 (Operand.tmp 31) (Operand.tmp 32) 22, type := 4, pos := "ladder.go:92", after := #[{ on := 3, ground := Ground.data }, { on := 4, ground := Ground.data }], guard := none }) (v := .bool true) rfl (by kernel_rfl) (by kernel_rfl) (by kernel_rfl) (fun _ _ _ h => h) (y_eql rfl (.tmp 31) (.tmp 32) _ rfl (lad f (fewv i)) zeros O2 N rfl rfl hO2 HN true HL.out.symm) hH2 ?_
  try simp only [Act.put, List.setIfInBounds_toArray, List.set_cons_zero, List.set_cons_succ]
  refine wpAnyH_take (i := 6) (oi := { dst := some 34, op := Op.move (Operand.tmp 33), type := 4, pos := "ladder.go:92", after := #[{ on := 5, ground := Ground.data }, { on := 3, ground := Ground.chain }], guard := none }) (v := .bool true) rfl (by kernel_rfl) (by kernel_rfl) (by kernel_rfl) (fun _ _ _ h => h) (Or.inl ⟨rfl, fun v hv => rfl⟩) hH2 ?_
  try simp only [Act.put, List.setIfInBounds_toArray, List.set_cons_zero, List.set_cons_succ]
  refine wpAnyH_take (i := 7) (oi := { dst := some 35, op := Op.move (Operand.tmp 6), type := 4, pos := "ladder.go:92", after := #[{ on := 6, ground := Ground.guard }], guard := some (6, true) }) (v := .bool false) rfl (by kernel_rfl) (by kernel_rfl) (by kernel_rfl) (fun _ _ _ h => h) (Or.inl ⟨rfl, fun v hv => rfl⟩) hH2 ?_
  try simp only [Act.put, List.setIfInBounds_toArray, List.set_cons_zero, List.set_cons_succ]
  refine wpAnyH_take (i := 8) (oi := { dst := some 36, op := Op.unOp UnOp.not 4 (Operand.tmp 35), type := 4, pos := "ladder.go:92", after := #[{ on := 7, ground := Ground.data }, { on := 6, ground := Ground.guard }], guard := some (6, true) }) (v := .bool true) rfl (by kernel_rfl) (by kernel_rfl) (by kernel_rfl) (fun _ _ _ h => h) (Or.inl ⟨rfl, fun v hv => rfl⟩) hH2 ?_
  try simp only [Act.put, List.setIfInBounds_toArray, List.set_cons_zero, List.set_cons_succ]
  refine wpAnyH_take (i := 9) (oi := { dst := some 37, op := Op.pick (Operand.tmp 34) (Operand.tmp 36) (Operand.const (Value.bool false)), type := 4, pos := "ladder.go:92", after := #[{ on := 6, ground := Ground.data }, { on := 8, ground := Ground.data }], guard := none }) (v := .bool true) rfl (by kernel_rfl) (by kernel_rfl) (by kernel_rfl) (fun _ _ _ h => h) (Or.inl ⟨rfl, fun v hv => rfl⟩) hH2 ?_
  try simp only [Act.put, List.setIfInBounds_toArray, List.set_cons_zero, List.set_cons_succ]
  refine wpAnyH_take (i := 10) (oi := { dst := some 38, op := Op.move (Operand.tmp 37), type := 4, pos := "ladder.go:92", after := #[{ on := 9, ground := Ground.data }, { on := 6, ground := Ground.chain }], guard := none }) (v := .bool true) rfl (by kernel_rfl) (by kernel_rfl) (by kernel_rfl) (fun _ _ _ h => h) (Or.inl ⟨rfl, fun v hv => rfl⟩) hH2 ?_
  try simp only [Act.put, List.setIfInBounds_toArray, List.set_cons_zero, List.set_cons_succ]
  refine wpAnyH_take (i := 11) (oi := { dst := some 39, op := Op.move (Operand.tmp 8), type := 4, pos := "ladder.go:92", after := #[{ on := 10, ground := Ground.guard }], guard := some (10, true) }) (v := .bool true) rfl (by kernel_rfl) (by kernel_rfl) (by kernel_rfl) (fun _ _ _ h => h) (Or.inl ⟨rfl, fun v hv => rfl⟩) hH2 ?_
  try simp only [Act.put, List.setIfInBounds_toArray, List.set_cons_zero, List.set_cons_succ]
  refine wpAnyH_take (i := 12) (oi := { dst := some 40, op := Op.pick (Operand.tmp 38) (Operand.tmp 39) (Operand.const (Value.bool false)), type := 4, pos := "ladder.go:92", after := #[{ on := 10, ground := Ground.data }, { on := 11, ground := Ground.data }], guard := none }) (v := .bool true) rfl (by kernel_rfl) (by kernel_rfl) (by kernel_rfl) (fun _ _ _ h => h) (Or.inl ⟨rfl, fun v hv => rfl⟩) hH2 ?_
  try simp only [Act.put, List.setIfInBounds_toArray, List.set_cons_zero, List.set_cons_succ]
  refine wpAnyH_take (i := 13) (oi := { dst := some 4, op := Op.assign (Operand.tmp 40), type := 4, pos := "ladder.go:92", after := #[{ on := 12, ground := Ground.data }, { on := 10, ground := Ground.chain }, { on := 0, ground := Ground.phase }, { on := 1, ground := Ground.phase }, { on := 2, ground := Ground.phase }, { on := 3, ground := Ground.phase }, { on := 4, ground := Ground.phase }, { on := 5, ground := Ground.phase }, { on := 6, ground := Ground.phase }, { on := 7, ground := Ground.phase }, { on := 8, ground := Ground.phase }, { on := 9, ground := Ground.phase }, { on := 10, ground := Ground.phase }, { on := 11, ground := Ground.phase }, { on := 12, ground := Ground.phase }], guard := none }) (v := .bool true) rfl (by kernel_rfl) (by kernel_rfl) (by kernel_rfl) (fun _ _ _ h => h) (Or.inl ⟨rfl, fun v hv => rfl⟩) hH2 ?_
  try simp only [Act.put, List.setIfInBounds_toArray, List.set_cons_zero, List.set_cons_succ]
  refine wpAnyH_done (by kernel_rfl) ?_ _
  have BE : Hid (Below w.heap.size w _) := hid hH2.2.2
  go_wp2_with fail
  go_ret
  exact ⟨rfl, BE.out⟩

set_option maxRecDepth 100000 in
theorem fnFew_any (f : Nat → Int) (i : Int) (hf : Byt f) (_ : (Lit.int .i64 i).wf = true) (X : Array Value) (hX : Hid (X = (bvals f).toArray)) (w : World) (h1 : One5 w) :
    Calls Tryd.prog 12 #[.agg X, .int .i64 i] w fun e w' => e = .returned (.bool true) ∧ Below w.heap.size w w' := by
  by_cases h0 : 0 ≤ i
  · by_cases h4 : i ≤ 4
    · exact fnFew_in f i hf h0 h4 X hX w h1
    · have h4' : 4 < i := by omega
      clear h4
      go_enter Tryd.func12, Tryd.ntmps12
      go_wp2_with fail
      go_ret
      exact ⟨rfl, (Below.refl _ _).alloc (Nat.le_refl _) _⟩
  · have h0' : i < 0 := by omega
    clear h0
    go_enter Tryd.func12, Tryd.ntmps12
    go_wp2_with fail
    go_ret
    exact ⟨rfl, (Below.refl _ _).alloc (Nat.le_refl _) _⟩
end Go.Proofs.YtflmkgecgijncaaDoor
