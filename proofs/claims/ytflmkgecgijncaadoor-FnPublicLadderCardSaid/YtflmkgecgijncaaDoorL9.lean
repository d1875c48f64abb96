/-
  laws.FnPublicLadder. Printed by gen_pub.py.
-/
import Derived.Test.YtflmkgecgijncaaDoorF24
namespace Go.Proofs.YtflmkgecgijncaaDoor
open Go.RowKit Go.Shelf

set_option maxRecDepth 100000 in
set_option maxHeartbeats 1000000 in
theorem fnPublicLadder_any (f : Nat → Int) (hf : Byt f) (X : Array Value) (hX : Hid (X = (bvals f).toArray)) (w : World) (h1 : One5 w) :
    Calls Tryd.prog 9 #[.agg X] w fun e w' => e = .returned (.bool true) ∧ Below w.heap.size w w' := by
  have H1 : Hid (One5 w ∧ Byt f) := hid ⟨h1, hf⟩
  clear h1 hf
  obtain ⟨N, hN⟩ : ∃ N, N = (bvals zeros).toArray := ⟨_, rfl⟩
  have HN : Hid (N = (bvals zeros).toArray) := hid hN
  clear hN
  have F0 : Hid (Arr (w.alloc (.cells X 22)) w.heap.size f) := hid (by rw [hX.out]; exact heap_alloc_new w _)
  have F1 : Hid (Below w.heap.size w (w.alloc (.cells X 22))) := hid ((Below.refl _ _).alloc (Nat.le_refl _) _)
  go_enter Tryd.func9, Tryd.ntmps9
  go_wp2_with (first | (refine load_arr rfl _ rfl w.heap.size f X rfl F0 hX ?_) | (go_at_call 20; refine (implPub_any f H1.out.2 X hX _ (H1.out.1.below F1.out)).mono ?_; rintro e w1 ⟨O, rfl, hO, hb⟩; have F2 : Hid ((w1.alloc (.cells (List.replicate 32 (Value.int .u8 0)).toArray 22)).heap[w1.heap.size]? = some (.cells (List.replicate 32 (Value.int .u8 0)).toArray 22 (0, 0)) ∧ (List.replicate 32 (Value.int .u8 0)).toArray.size = 32) := hid ⟨heap_alloc_new w1 _, zeros_len⟩; have F3 : Hid (Below w1.heap.size w1 (w1.alloc (.cells (List.replicate 32 (Value.int .u8 0)).toArray 22))) := hid ((Below.refl _ _).alloc (Nat.le_refl _) _)) | (refine store_arr rfl _ _ rfl w1.heap.size (lad f nine) O _ rfl rfl F2 hO w1.heap.size w1 (hid ⟨F3.out, Nat.le_refl _⟩) ?_; intro w0 AR0 BL0))
  have z0 := hb.out.trans (BL0.out.mono hb.out.size)
  have A0 : Arr w0 w.heap.size f := F0.out.below z0 F0.out.size
  have A1 := AR0.out
  have B2 : Below w.heap.size w w0 := F1.out.trans (z0.mono F1.out.size)
  have A3 : One5 w0 := H1.out.1.below B2
  obtain ⟨p, hp⟩ : ∃ p, p = lad f nine := ⟨_, rfl⟩
  rw [← hp] at A1 hO
  have HP : Hid (p = lad f nine) := hid hp
  have HQ : Hid (bvals p ≠ bvals zeros) := hid (by rw [hp]; exact lad_nine H1.out.2)
  clear hp
  generalize w1.heap.size = m at *
  clear z0 F0 F1 F2 F3 hb AR0 BL0
  refine wp_region_held_drew (S := fun v => Arr v (w.heap.size) f ∧ Arr v (m) p ∧ One5 v ∧ Below w.heap.size w v) (by kernel_rfl) (⟨A0, A1, A3, B2.drew⟩) (fun hH0 => ?_)
  refine wpAnyH_take (i := 0) (oi := { dst := some 6, op := Op.load 22 (Operand.tmp 3), type := 22, pos := "ladder.go:27", after := #[], guard := none }) (v := .agg O) rfl (by kernel_rfl) (by kernel_rfl) (by kernel_rfl) (fun _ _ _ h => h) (y_load rfl (.tmp 3) rfl (m) p O rfl hO (fun v hv => hv.2.1)) hH0 ?_
  try simp only [Act.put, List.setIfInBounds_toArray, List.set_cons_zero, List.set_cons_succ]
  refine wpAnyH_take (i := 1) (oi := { dst := some 7, op := Op.load 22 (Operand.tmp 1), type := 22, pos := "ladder.go:27", after := #[], guard := none }) (v := .agg X) rfl (by kernel_rfl) (by kernel_rfl) (by kernel_rfl) (fun _ _ _ h => h) (y_load rfl (.tmp 1) rfl (w.heap.size) f X rfl hX (fun v hv => hv.1)) hH0 ?_
  try simp only [Act.put, List.setIfInBounds_toArray, List.set_cons_zero, List.set_cons_succ]
  refine wpAnyH_ready (rs := [2]) (by kernel_rfl) (by simp) (AllReadyH.cons (o := { dst := some 8, op := Op.call { callee := Callee.value (Operand.func 19), args := #[], argTypes := #[] }, type := 22, pos := "ladder.go:27", after := #[], guard := none }) rfl (fun K hK => ?_) AllReadyH.nil)
  go_simp
  go_at_call 19
  refine (nine_any _).mono ?_
  rintro e w1 ⟨O1, rfl, hO1, hb1⟩
  go_wp2_with fail
  refine hK.out _ _ ⟨hH0.1.below hb1.out hH0.1.size, hH0.2.1.below hb1.out hH0.2.1.size, hH0.2.2.1.below hb1.out, hH0.2.2.2.trans (hb1.out.mono hH0.2.2.2.size)⟩ (fun hH1 => ?_)
  clear hK K
  try simp only [Act.put, List.setIfInBounds_toArray, List.set_cons_zero, List.set_cons_succ]
  refine wpAnyH_ready (rs := [3]) (by kernel_rfl) (by simp) (AllReadyH.cons (o := { dst := some 9, op := Op.call { callee := Callee.value (Operand.func 16), args := #[Operand.tmp 7, Operand.tmp 8], argTypes := #[22, 22] }, type := 22, pos := "ladder.go:27", after := #[{ on := 1, ground := Ground.data }, { on := 2, ground := Ground.data }, { on := 2, ground := Ground.chain }], guard := none }) rfl (fun K hK => ?_) AllReadyH.nil)
  go_simp
  go_at_call 16
  refine (implMult_any f nine H1.out.2 nine_byt X O1 hX hO1 _ hH1.2.2.1).mono ?_
  rintro e w2 ⟨O2, rfl, hO2, hb2⟩
  go_wp2_with fail
  refine hK.out _ _ ⟨hH1.1.below hb2.out hH1.1.size, hH1.2.1.below hb2.out hH1.2.1.size, hH1.2.2.1.below hb2.out, hH1.2.2.2.trans (hb2.out.mono hH1.2.2.2.size)⟩ (fun hH2 => ?_)
  clear hK K
  try simp only [Act.put, List.setIfInBounds_toArray, List.set_cons_zero, List.set_cons_succ]
  refine wpAnyH_take (i := 4) (oi := { dst := some 10, op := Op.binOp BinOp.eql 22 (Operand.tmp 6) (Operand.tmp 9) 22, type := 4, pos := "ladder.go:27", after := #[{ on := 0, ground := Ground.data }, { on := 3, ground := Ground.data }], guard := none }) (v := .bool true) rfl (by kernel_rfl) (by kernel_rfl) (by kernel_rfl) (fun _ _ _ h => h) (y_eql rfl (.tmp 6) (.tmp 9) _ rfl p (lad f nine) O O2 rfl rfl hO hO2 true (same_eq (congrArg bvals HP.out))) hH2 ?_
  try simp only [Act.put, List.setIfInBounds_toArray, List.set_cons_zero, List.set_cons_succ]
  refine wpAnyH_take (i := 5) (oi := { dst := some 11, op := Op.move (Operand.tmp 10), type := 4, pos := "ladder.go:27", after := #[{ on := 4, ground := Ground.data }, { on := 3, ground := Ground.chain }], guard := none }) (v := .bool true) rfl (by kernel_rfl) (by kernel_rfl) (by kernel_rfl) (fun _ _ _ h => h) (Or.inl ⟨rfl, fun v hv => rfl⟩) hH2 ?_
  try simp only [Act.put, List.setIfInBounds_toArray, List.set_cons_zero, List.set_cons_succ]
  refine wpAnyH_take (i := 6) (oi := { dst := some 12, op := Op.load 22 (Operand.tmp 3), type := 22, pos := "ladder.go:27", after := #[{ on := 5, ground := Ground.guard }], guard := some (5, true) }) (v := .agg O) rfl (by kernel_rfl) (by kernel_rfl) (by kernel_rfl) (fun _ _ _ h => h) (y_load rfl (.tmp 3) rfl (m) p O rfl hO (fun v hv => hv.2.1)) hH2 ?_
  try simp only [Act.put, List.setIfInBounds_toArray, List.set_cons_zero, List.set_cons_succ]
  refine wpAnyH_take (i := 7) (oi := { dst := some 13, op := Op.build 22 #[], type := 22, pos := "ladder.go:27", after := #[{ on := 5, ground := Ground.guard }], guard := some (5, true) }) (v := .agg N) rfl (by kernel_rfl) (by kernel_rfl) (by kernel_rfl) (fun _ _ _ h => h) (y_build rfl _ rfl zeros N HN (by kernel_rfl)) hH2 ?_
  try simp only [Act.put, List.setIfInBounds_toArray, List.set_cons_zero, List.set_cons_succ]
  refine wpAnyH_take (i := 8) (oi := { dst := some 14, op := Op.binOp BinOp.neq 22 (Operand.tmp 12) (Operand.tmp 13) 22, type := 4, pos := "ladder.go:27", after := #[{ on := 6, ground := Ground.data }, { on := 7, ground := Ground.data }, { on := 5, ground := Ground.guard }], guard := some (5, true) }) (v := .bool true) rfl (by kernel_rfl) (by kernel_rfl) (by kernel_rfl) (fun _ _ _ h => h) (y_neq rfl (.tmp 12) (.tmp 13) _ rfl p zeros O N rfl rfl hO HN true (same_ne HQ.out)) hH2 ?_
  try simp only [Act.put, List.setIfInBounds_toArray, List.set_cons_zero, List.set_cons_succ]
  refine wpAnyH_take (i := 9) (oi := { dst := some 15, op := Op.pick (Operand.tmp 11) (Operand.tmp 14) (Operand.const (Value.bool false)), type := 4, pos := "ladder.go:27", after := #[{ on := 5, ground := Ground.data }, { on := 8, ground := Ground.data }], guard := none }) (v := .bool true) rfl (by kernel_rfl) (by kernel_rfl) (by kernel_rfl) (fun _ _ _ h => h) (Or.inl ⟨rfl, fun v hv => rfl⟩) hH2 ?_
  try simp only [Act.put, List.setIfInBounds_toArray, List.set_cons_zero, List.set_cons_succ]
  refine wpAnyH_take (i := 10) (oi := { dst := some 2, op := Op.assign (Operand.tmp 15), type := 4, pos := "ladder.go:27", after := #[{ on := 9, ground := Ground.data }, { on := 5, ground := Ground.chain }, { on := 0, ground := Ground.phase }, { on := 1, ground := Ground.phase }, { on := 2, ground := Ground.phase }, { on := 3, ground := Ground.phase }, { on := 4, ground := Ground.phase }, { on := 5, ground := Ground.phase }, { on := 6, ground := Ground.phase }, { on := 7, ground := Ground.phase }, { on := 8, ground := Ground.phase }, { on := 9, ground := Ground.phase }], guard := none }) (v := .bool true) rfl (by kernel_rfl) (by kernel_rfl) (by kernel_rfl) (fun _ _ _ h => h) (Or.inl ⟨rfl, fun v hv => rfl⟩) hH2 ?_
  try simp only [Act.put, List.setIfInBounds_toArray, List.set_cons_zero, List.set_cons_succ]
  refine wpAnyH_done (by kernel_rfl) ?_ _
  have BE : Hid (Below w.heap.size w _) := hid hH2.2.2.2
  go_wp2_with fail
  go_ret
  exact ⟨rfl, BE.out⟩
end Go.Proofs.YtflmkgecgijncaaDoor
