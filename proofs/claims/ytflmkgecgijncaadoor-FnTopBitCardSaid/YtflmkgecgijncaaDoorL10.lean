/-
  laws.FnTopBit. Printed by gen_top.py.
-/
import Derived.Test.YtflmkgecgijncaaDoorF24
namespace Go.Proofs.YtflmkgecgijncaaDoor
open Go.RowKit Go.Shelf

theorem lad_top {f g : Nat → Int} (hg : Byt g) : lad f g = lad f (upd g 31 (bits .xor .u8 (g 31) 128)) := by
  refine lad_congr rfl ?_
  have e : unum (upd g 31 (bits .xor .u8 (g 31) 128)) = unum g := by
    unfold unum
    have h31 := hg 31
    have x := xor128 (g 31) h31.1 h31.2
    generalize bits .xor .u8 (g 31) 128 = z at *
    simp only [leN, upd]
    simp
    rcases x with x | x <;> omega
  rw [e]

theorem byt_top {g : Nat → Int} (hg : Byt g) : Byt (upd g 31 (bits .xor .u8 (g 31) 128)) := by
  refine hg.upd ?_
  have h31 := hg 31
  have x := xor128 (g 31) h31.1 h31.2
  omega

set_option maxRecDepth 100000 in
set_option maxHeartbeats 1000000 in
theorem fnTopBit_any (f g : Nat → Int) (hf : Byt f) (hg : Byt g) (X Y : Array Value) (hX : Hid (X = (bvals f).toArray)) (hY : Hid (Y = (bvals g).toArray)) (w : World) (h1 : One5 w) :
    Calls Tryd.prog 10 #[.agg X, .agg Y] w fun e w' => e = .returned (.bool true) ∧ Below w.heap.size w w' := by
  have EQ := hid (lad_top (f := f) hg)
  have HF : Hid (Byt f ∧ Byt g ∧ Byt (upd g 31 (bits .xor .u8 (g 31) 128))) := hid ⟨hf, hg, byt_top hg⟩
  have H1 : Hid (One5 w) := hid h1
  clear h1 hf hg
  obtain ⟨N, hN⟩ : ∃ N, N = (bvals zeros).toArray := ⟨_, rfl⟩
  have HN : Hid (N = (bvals zeros).toArray) := hid hN
  clear hN
  obtain ⟨F0, F1, F2, F3, F4⟩ := three_arr f g X Y hX hY w (List.replicate 32 (.int .u8 0)) (by simp)
  have G1 : Hid (Arr ((w.alloc (.cells X 22)).alloc (.cells Y 22)) (w.heap.size + 1) g) := by obtain ⟨_, h0, _, _, _, h⟩ := two_arr f g X Y hX hY w; rw [← h0]; exact hid h
  go_enter Tryd.func10, Tryd.ntmps10
  go_wp2_with (first | (refine load_arr rfl _ rfl (w.heap.size + 1) g Y rfl G1 hY ?_) | (refine store_arr rfl _ _ rfl (w.heap.size + 1 + 1) g Y _ rfl rfl F2 hY (w.heap.size + 1 + 1) _ (hid ⟨Below.refl _ _, Nat.le_refl _⟩) ?_; intro w0 AR0 BL0; have c31 := AR0.out.bytes 31 (by decide); have f31 := AR0.out.frozen 31))
  have hb : Below (w.heap.size + 1 + 1) (((w.alloc (.cells X 22)).alloc (.cells Y 22)).alloc (.cells (List.replicate 32 (Value.int .u8 0)).toArray 22)) (w0.setCell ⟨w.heap.size + 1 + 1, 31, none⟩ (.int .u8 (bits .xor .u8 (g 31) 128))) := BL0.out.setCell (Nat.le_refl _) _
  have A0 : Arr _ w.heap.size f := (hb.block _ (by omega)).trans F0.out
  have A1 : Arr _ (w.heap.size + 1) g := (hb.block _ (by omega)).trans F1.out
  have A2 := AR0.out.set 31 (bits .xor .u8 (g 31) 128)
  have B2 := F3.out.trans (hb.mono (by omega))
  have A3 : One5 _ := H1.out.below B2
  generalize (w0.setCell ⟨w.heap.size + 1 + 1, 31, none⟩ (.int .u8 (bits .xor .u8 (g 31) 128))) = W1 at A0 A1 A2 A3 B2 ⊢
  generalize bits .xor .u8 (g 31) 128 = z at *
  have HE : Hid (lad f g = lad f (upd g 31 z)) := EQ
  have H2 : Hid (Byt f ∧ Byt g ∧ Byt (upd g 31 z)) := HF
  generalize upd g 31 z = gt at *
  obtain ⟨Z, hZ⟩ : ∃ Z, Z = (bvals gt).toArray := ⟨_, rfl⟩
  have HZ : Hid (Z = (bvals gt).toArray) := hid hZ
  clear hZ hb F0 F1 F2 F3 F4 G1 AR0 BL0 c31 f31 EQ HF H1
  refine wp_region_held_drew (S := fun v => Arr v (w.heap.size) f ∧ Arr v (w.heap.size + 1) g ∧ Arr v (w.heap.size + 1 + 1) gt ∧ One5 v ∧ Below w.heap.size w v) (by kernel_rfl) (⟨A0, A1, A2, A3, B2.drew⟩) (fun hH0 => ?_)
  refine wpAnyH_take (i := 0) (oi := { dst := some 11, op := Op.load 22 (Operand.tmp 2), type := 22, pos := "ladder.go:74", after := #[], guard := none }) (v := .agg X) rfl (by kernel_rfl) (by kernel_rfl) (by kernel_rfl) (fun _ _ _ h => h) (y_load rfl (.tmp 2) rfl (w.heap.size) f X rfl hX (fun v hv => hv.1)) hH0 ?_
  try simp only [Act.put, List.setIfInBounds_toArray, List.set_cons_zero, List.set_cons_succ]
  refine wpAnyH_take (i := 1) (oi := { dst := some 12, op := Op.load 22 (Operand.tmp 3), type := 22, pos := "ladder.go:74", after := #[], guard := none }) (v := .agg Y) rfl (by kernel_rfl) (by kernel_rfl) (by kernel_rfl) (fun _ _ _ h => h) (y_load rfl (.tmp 3) rfl (w.heap.size + 1) g Y rfl hY (fun v hv => hv.2.1)) hH0 ?_
  try simp only [Act.put, List.setIfInBounds_toArray, List.set_cons_zero, List.set_cons_succ]
  refine wpAnyH_take (i := 3) (oi := { dst := some 14, op := Op.load 22 (Operand.tmp 2), type := 22, pos := "ladder.go:74", after := #[], guard := none }) (v := .agg X) rfl (by kernel_rfl) (by kernel_rfl) (by kernel_rfl) (fun _ _ _ h => h) (y_load rfl (.tmp 2) rfl (w.heap.size) f X rfl hX (fun v hv => hv.1)) hH0 ?_
  try simp only [Act.put, List.setIfInBounds_toArray, List.set_cons_zero, List.set_cons_succ]
  refine wpAnyH_take (i := 4) (oi := { dst := some 15, op := Op.load 22 (Operand.tmp 5), type := 22, pos := "ladder.go:74", after := #[], guard := none }) (v := .agg Z) rfl (by kernel_rfl) (by kernel_rfl) (by kernel_rfl) (fun _ _ _ h => h) (y_load rfl (.tmp 5) rfl (w.heap.size + 1 + 1) gt Z rfl HZ (fun v hv => hv.2.2.1)) hH0 ?_
  try simp only [Act.put, List.setIfInBounds_toArray, List.set_cons_zero, List.set_cons_succ]
  refine wpAnyH_ready (rs := [2]) (by kernel_rfl) (by simp) (AllReadyH.cons (o := { dst := some 13, op := Op.call { callee := Callee.value (Operand.func 16), args := #[Operand.tmp 11, Operand.tmp 12], argTypes := #[22, 22] }, type := 22, pos := "ladder.go:74", after := #[{ on := 0, ground := Ground.data }, { on := 1, ground := Ground.data }], guard := none }) rfl (fun K hK => ?_) AllReadyH.nil)
  go_simp
  go_at_call 16
  refine (implMult_any f g H2.out.1 H2.out.2.1 X Y hX hY _ hH0.2.2.2.1).mono ?_
  rintro e w1 ⟨O1, rfl, hO1, hb1⟩
  go_wp2_with fail
  refine hK.out _ _ ⟨hH0.1.below hb1.out hH0.1.size, hH0.2.1.below hb1.out hH0.2.1.size, hH0.2.2.1.below hb1.out hH0.2.2.1.size, hH0.2.2.2.1.below hb1.out, hH0.2.2.2.2.trans (hb1.out.mono hH0.2.2.2.2.size)⟩ (fun hH1 => ?_)
  clear hK K
  try simp only [Act.put, List.setIfInBounds_toArray, List.set_cons_zero, List.set_cons_succ]
  refine wpAnyH_ready (rs := [5]) (by kernel_rfl) (by simp) (AllReadyH.cons (o := { dst := some 16, op := Op.call { callee := Callee.value (Operand.func 16), args := #[Operand.tmp 14, Operand.tmp 15], argTypes := #[22, 22] }, type := 22, pos := "ladder.go:74", after := #[{ on := 3, ground := Ground.data }, { on := 4, ground := Ground.data }, { on := 2, ground := Ground.chain }], guard := none }) rfl (fun K hK => ?_) AllReadyH.nil)
  go_simp
  go_at_call 16
  refine (implMult_any f gt H2.out.1 H2.out.2.2 X Z hX HZ _ hH1.2.2.2.1).mono ?_
  rintro e w2 ⟨O2, rfl, hO2, hb2⟩
  go_wp2_with fail
  refine hK.out _ _ ⟨hH1.1.below hb2.out hH1.1.size, hH1.2.1.below hb2.out hH1.2.1.size, hH1.2.2.1.below hb2.out hH1.2.2.1.size, hH1.2.2.2.1.below hb2.out, hH1.2.2.2.2.trans (hb2.out.mono hH1.2.2.2.2.size)⟩ (fun hH2 => ?_)
  clear hK K
  try simp only [Act.put, List.setIfInBounds_toArray, List.set_cons_zero, List.set_cons_succ]
  refine wpAnyH_take (i := 6) (oi := { dst := some 17, op := Op.binOp BinOp.eql 22 (Operand.tmp 13) (Operand.tmp 16) 22, type := 4, pos := "ladder.go:74", after := #[{ on := 2, ground := Ground.data }, { on := 5, ground := Ground.data }], guard := none }) (v := .bool true) rfl (by kernel_rfl) (by kernel_rfl) (by kernel_rfl) (fun _ _ _ h => h) (y_eql rfl (.tmp 13) (.tmp 16) _ rfl (lad f g) (lad f gt) O1 O2 rfl rfl hO1 hO2 true (same_eq (congrArg bvals HE.out))) hH2 ?_
  try simp only [Act.put, List.setIfInBounds_toArray, List.set_cons_zero, List.set_cons_succ]
  refine wpAnyH_take (i := 7) (oi := { dst := some 18, op := Op.move (Operand.tmp 17), type := 4, pos := "ladder.go:74", after := #[{ on := 6, ground := Ground.data }, { on := 5, ground := Ground.chain }], guard := none }) (v := .bool true) rfl (by kernel_rfl) (by kernel_rfl) (by kernel_rfl) (fun _ _ _ h => h) (Or.inl ⟨rfl, fun v hv => rfl⟩) hH2 ?_
  try simp only [Act.put, List.setIfInBounds_toArray, List.set_cons_zero, List.set_cons_succ]
  refine wpAnyH_take (i := 8) (oi := { dst := some 19, op := Op.load 22 (Operand.tmp 2), type := 22, pos := "ladder.go:74", after := #[{ on := 7, ground := Ground.guard }], guard := some (7, true) }) (v := .agg X) rfl (by kernel_rfl) (by kernel_rfl) (by kernel_rfl) (fun _ _ _ h => h) (y_load rfl (.tmp 2) rfl (w.heap.size) f X rfl hX (fun v hv => hv.1)) hH2 ?_
  try simp only [Act.put, List.setIfInBounds_toArray, List.set_cons_zero, List.set_cons_succ]
  refine wpAnyH_take (i := 10) (oi := { dst := some 21, op := Op.build 22 #[], type := 22, pos := "ladder.go:74", after := #[{ on := 7, ground := Ground.guard }], guard := some (7, true) }) (v := .agg N) rfl (by kernel_rfl) (by kernel_rfl) (by kernel_rfl) (fun _ _ _ h => h) (y_build rfl _ rfl zeros N HN (by kernel_rfl)) hH2 ?_
  try simp only [Act.put, List.setIfInBounds_toArray, List.set_cons_zero, List.set_cons_succ]
  refine wpAnyH_ready (rs := [9]) (by kernel_rfl) (by simp) (AllReadyH.cons (o := { dst := some 20, op := Op.call { callee := Callee.value (Operand.func 20), args := #[Operand.tmp 19], argTypes := #[22] }, type := 22, pos := "ladder.go:74", after := #[{ on := 8, ground := Ground.data }, { on := 7, ground := Ground.chain }, { on := 7, ground := Ground.guard }], guard := some (7, true) }) rfl (fun K hK => ?_) AllReadyH.nil)
  go_simp
  go_at_call 20
  refine (implPub_any f H2.out.1 X hX _ hH2.2.2.2.1).mono ?_
  rintro e w3 ⟨O3, rfl, hO3, hb3⟩
  go_wp2_with fail
  refine hK.out _ _ ⟨hH2.1.below hb3.out hH2.1.size, hH2.2.1.below hb3.out hH2.2.1.size, hH2.2.2.1.below hb3.out hH2.2.2.1.size, hH2.2.2.2.1.below hb3.out, hH2.2.2.2.2.trans (hb3.out.mono hH2.2.2.2.2.size)⟩ (fun hH3 => ?_)
  clear hK K
  try simp only [Act.put, List.setIfInBounds_toArray, List.set_cons_zero, List.set_cons_succ]
  refine wpAnyH_take (i := 11) (oi := { dst := some 22, op := Op.binOp BinOp.neq 22 (Operand.tmp 20) (Operand.tmp 21) 22, type := 4, pos := "ladder.go:74", after := #[{ on := 9, ground := Ground.data }, { on := 10, ground := Ground.data }, { on := 7, ground := Ground.guard }], guard := some (7, true) }) (v := .bool true) rfl (by kernel_rfl) (by kernel_rfl) (by kernel_rfl) (fun _ _ _ h => h) (y_neq rfl (.tmp 20) (.tmp 21) _ rfl (lad f nine) zeros O3 N rfl rfl hO3 HN true (same_ne (lad_nine H2.out.1))) hH3 ?_
  try simp only [Act.put, List.setIfInBounds_toArray, List.set_cons_zero, List.set_cons_succ]
  refine wpAnyH_take (i := 12) (oi := { dst := some 23, op := Op.pick (Operand.tmp 18) (Operand.tmp 22) (Operand.const (Value.bool false)), type := 4, pos := "ladder.go:74", after := #[{ on := 7, ground := Ground.data }, { on := 11, ground := Ground.data }], guard := none }) (v := .bool true) rfl (by kernel_rfl) (by kernel_rfl) (by kernel_rfl) (fun _ _ _ h => h) (Or.inl ⟨rfl, fun v hv => rfl⟩) hH3 ?_
  try simp only [Act.put, List.setIfInBounds_toArray, List.set_cons_zero, List.set_cons_succ]
  refine wpAnyH_take (i := 13) (oi := { dst := some 4, op := Op.assign (Operand.tmp 23), type := 4, pos := "ladder.go:74", after := #[{ on := 12, ground := Ground.data }, { on := 9, ground := Ground.chain }, { on := 0, ground := Ground.phase }, { on := 1, ground := Ground.phase }, { on := 2, ground := Ground.phase }, { on := 3, ground := Ground.phase }, { on := 4, ground := Ground.phase }, { on := 5, ground := Ground.phase }, { on := 6, ground := Ground.phase }, { on := 7, ground := Ground.phase }, { on := 8, ground := Ground.phase }, { on := 9, ground := Ground.phase }, { on := 10, ground := Ground.phase }, { on := 11, ground := Ground.phase }, { on := 12, ground := Ground.phase }], guard := none }) (v := .bool true) rfl (by kernel_rfl) (by kernel_rfl) (by kernel_rfl) (fun _ _ _ h => h) (Or.inl ⟨rfl, fun v hv => rfl⟩) hH3 ?_
  try simp only [Act.put, List.setIfInBounds_toArray, List.set_cons_zero, List.set_cons_succ]
  refine wpAnyH_done (by kernel_rfl) ?_ _
  have BE : Hid (Below w.heap.size w _) := hid hH3.2.2.2.2
  go_wp2_with fail
  go_ret
  exact ⟨rfl, BE.out⟩
end Go.Proofs.YtflmkgecgijncaaDoor
