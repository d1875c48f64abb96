/-
  laws.FnClamped. Printed by gen_clamped.py.
-/
import Derived.Test.YtflmkgecgijncaaDoorF24
namespace Go.Proofs.YtflmkgecgijncaaDoor
open Go.RowKit Go.Shelf

theorem andNot7 (z : Int) (h0 : 0 ≤ z) (h1 : z ≤ 255) : bits .andNot .u8 z 7 = z / 8 * 8 := by
  have k : ∀ n : Fin 256, bits .andNot .u8 ((n.val : Nat) : Int) 7 = (n.val : Int) / 8 * 8 := by decide +kernel
  obtain ⟨n, rfl⟩ := Int.eq_ofNat_of_zero_le h0
  exact k ⟨n, by omega⟩
theorem and7' (z : Int) (h0 : 0 ≤ z) (h1 : z ≤ 255) : bits .and .u8 z 7 = z % 8 := by
  have k : ∀ n : Fin 256, bits .and .u8 ((n.val : Nat) : Int) 7 = (n.val : Int) % 8 := by decide +kernel
  obtain ⟨n, rfl⟩ := Int.eq_ofNat_of_zero_le h0
  exact k ⟨n, by omega⟩
theorem and63' (z : Int) (h0 : 0 ≤ z) (h1 : z ≤ 255) : bits .and .u8 z 63 = z % 64 := by
  have k : ∀ n : Fin 256, bits .and .u8 ((n.val : Nat) : Int) 63 = (n.val : Int) % 64 := by decide +kernel
  obtain ⟨n, rfl⟩ := Int.eq_ofNat_of_zero_le h0
  exact k ⟨n, by omega⟩
theorem and192' (z : Int) (h0 : 0 ≤ z) (h1 : z ≤ 255) : bits .and .u8 z 192 = z / 64 * 64 := by
  have k : ∀ n : Fin 256, bits .and .u8 ((n.val : Nat) : Int) 192 = (n.val : Int) / 64 * 64 := by decide +kernel
  obtain ⟨n, rfl⟩ := Int.eq_ofNat_of_zero_le h0
  exact k ⟨n, by omega⟩
theorem or_low (a b : Int) (h0 : 0 ≤ a) (h1 : a < 32) (h2 : 0 ≤ b) (h3 : b < 8) : bits .or .u8 (a * 8) b = a * 8 + b := by
  have k : ∀ n : Fin 32, ∀ m : Fin 8, bits .or .u8 ((n.val : Nat) * 8 : Int) ((m.val : Nat) : Int) = (n.val : Int) * 8 + (m.val : Int) := by decide +kernel
  obtain ⟨n, rfl⟩ := Int.eq_ofNat_of_zero_le h0
  obtain ⟨m, rfl⟩ := Int.eq_ofNat_of_zero_le h2
  exact k ⟨n, by omega⟩ ⟨m, by omega⟩
theorem or_high (a b : Int) (h0 : 0 ≤ a) (h1 : a < 64) (h2 : 0 ≤ b) (h3 : b < 4) : bits .or .u8 a (b * 64) = a + b * 64 := by
  have k : ∀ n : Fin 64, ∀ m : Fin 4, bits .or .u8 ((n.val : Nat) : Int) ((m.val : Nat) * 64 : Int) = (n.val : Int) + (m.val : Int) * 64 := by decide +kernel
  obtain ⟨n, rfl⟩ := Int.eq_ofNat_of_zero_le h0
  obtain ⟨m, rfl⟩ := Int.eq_ofNat_of_zero_le h2
  exact k ⟨n, by omega⟩ ⟨m, by omega⟩

theorem low_byte {x l : Int} (hx : 0 ≤ x ∧ x ≤ 255) (hl : 0 ≤ l ∧ l ≤ 255) : bits .or .u8 (bits .andNot .u8 x 7) (bits .and .u8 l 7) = x / 8 * 8 + l % 8 := by
  rw [andNot7 x hx.1 hx.2, and7' l hl.1 hl.2, or_low _ _ (by omega) (by omega) (by omega) (by omega)]
theorem high_byte {x h : Int} (hx : 0 ≤ x ∧ x ≤ 255) (hh : 0 ≤ h ∧ h ≤ 255) : bits .or .u8 (bits .and .u8 x 63) (bits .and .u8 h 192) = x % 64 + h / 64 * 64 := by
  rw [and63' x hx.1 hx.2, and192' h hh.1 hh.2, or_high _ _ (by omega) (by omega) (by omega) (by omega)]

theorem lad_clamped {f g : Nat → Int} {l h : Int} (hf : Byt f) (hl : 0 ≤ l ∧ l ≤ 255) (hh : 0 ≤ h ∧ h ≤ 255) : lad f g = lad (upd (upd f 0 (bits .or .u8 (bits .andNot .u8 (f 0) 7) (bits .and .u8 l 7))) 31 (bits .or .u8 (bits .and .u8 (f 31) 63) (bits .and .u8 h 192))) g := by
  refine lad_congr ?_ rfl
  have e : cl f = cl (upd (upd f 0 (bits .or .u8 (bits .andNot .u8 (f 0) 7) (bits .and .u8 l 7))) 31 (bits .or .u8 (bits .and .u8 (f 31) 63) (bits .and .u8 h 192))) := by
    rw [low_byte (hf 0) hl, high_byte (hf 31) hh]
    funext j
    have h0 := hf 0
    have h31 := hf 31
    unfold cl upd
    by_cases j0 : j = 0
    · subst j0; simp <;> omega
    · by_cases j1 : j = 31
      · subst j1; simp <;> omega
      · simp [j0, j1]
  funext t
  unfold kb
  rw [e]

theorem byt_clamped {f : Nat → Int} {l h : Int} (hf : Byt f) (hl : 0 ≤ l ∧ l ≤ 255) (hh : 0 ≤ h ∧ h ≤ 255) : Byt (upd (upd f 0 (bits .or .u8 (bits .andNot .u8 (f 0) 7) (bits .and .u8 l 7))) 31 (bits .or .u8 (bits .and .u8 (f 31) 63) (bits .and .u8 h 192))) := by
  have h0 := hf 0
  have h31 := hf 31
  rw [low_byte (hf 0) hl, high_byte (hf 31) hh]
  exact (hf.upd (by omega)).upd (by omega)

set_option maxRecDepth 100000 in
set_option maxHeartbeats 1000000 in
theorem fnClamped_any (f g : Nat → Int) (l h : Int) (hf : Byt f) (hg : Byt g) (hl : 0 ≤ l ∧ l ≤ 255) (hh : 0 ≤ h ∧ h ≤ 255) (X Y : Array Value) (hX : Hid (X = (bvals f).toArray)) (hY : Hid (Y = (bvals g).toArray)) (w : World) (h1 : One5 w) :
    Calls Tryd.prog 8 #[.agg X, .agg Y, .int .u8 l, .int .u8 h] w fun e w' => e = .returned (.bool true) ∧ Below w.heap.size w w' := by
  have EQ := hid (lad_clamped (g := g) hf hl hh)
  have HF : Hid (Byt f ∧ Byt g ∧ Byt _) := hid ⟨hf, hg, byt_clamped hf hl hh⟩
  have H1 : Hid (One5 w) := hid h1
  clear h1 hf hg hl hh
  obtain ⟨N, hN⟩ : ∃ N, N = (bvals zeros).toArray := ⟨_, rfl⟩
  have HN : Hid (N = (bvals zeros).toArray) := hid hN
  clear hN
  obtain ⟨F0, F1, F2, F3, F4⟩ := three_arr f g X Y hX hY w (List.replicate 32 (.int .u8 0)) (by simp)
  have G1 : Hid (Arr ((w.alloc (.cells X 22)).alloc (.cells Y 22)) w.heap.size f) := by obtain ⟨_, h0, _, _, h, _⟩ := two_arr f g X Y hX hY w; rw [← h0]; exact hid h
  go_enter Tryd.func8, Tryd.ntmps8
  go_wp2_with (first | (refine load_arr rfl _ rfl w.heap.size f X rfl G1 hX ?_) | (refine store_arr rfl _ _ rfl (w.heap.size + 1 + 1) f X _ rfl rfl F2 hX (w.heap.size + 1 + 1) _ (hid ⟨Below.refl _ _, Nat.le_refl _⟩) ?_; intro w0 AR0 BL0; have c0 := AR0.out.bytes 0 (by decide); have c31 := AR0.out.bytes 31 (by decide); have f0 := AR0.out.frozen 0; have f31 := AR0.out.frozen 31))
  have hb : Below (w.heap.size + 1 + 1) (((w.alloc (.cells X 22)).alloc (.cells Y 22)).alloc (.cells (List.replicate 32 (Value.int .u8 0)).toArray 22)) ((w0.setCell ⟨w.heap.size + 1 + 1, 0, none⟩ (.int .u8 (bits .or .u8 (bits .andNot .u8 (f 0) 7) (bits .and .u8 l 7)))).setCell ⟨w.heap.size + 1 + 1, 31, none⟩ (.int .u8 (bits .or .u8 (bits .and .u8 (f 31) 63) (bits .and .u8 h 192)))) := (BL0.out.setCell (Nat.le_refl _) _).setCell (Nat.le_refl _) _
  have A0 : Arr _ w.heap.size f := (hb.block _ (by omega)).trans F0.out
  have A1 : Arr _ (w.heap.size + 1) g := (hb.block _ (by omega)).trans F1.out
  have A2 := (AR0.out.set 0 (bits .or .u8 (bits .andNot .u8 (f 0) 7) (bits .and .u8 l 7))).set 31 (bits .or .u8 (bits .and .u8 (f 31) 63) (bits .and .u8 h 192))
  have B2 := F3.out.trans (hb.mono (by omega))
  have A3 : One5 _ := H1.out.below B2
  generalize ((w0.setCell ⟨w.heap.size + 1 + 1, 0, none⟩ (.int .u8 (bits .or .u8 (bits .andNot .u8 (f 0) 7) (bits .and .u8 l 7)))).setCell ⟨w.heap.size + 1 + 1, 31, none⟩ (.int .u8 (bits .or .u8 (bits .and .u8 (f 31) 63) (bits .and .u8 h 192)))) = W1 at A0 A1 A2 A3 B2 ⊢
  generalize bits .or .u8 (bits .andNot .u8 (f 0) 7) (bits .and .u8 l 7) = z0 at *
  generalize bits .or .u8 (bits .and .u8 (f 31) 63) (bits .and .u8 h 192) = z1 at *
  have HE : Hid (lad f g = lad (upd (upd f 0 z0) 31 z1) g) := EQ
  have H2 : Hid (Byt f ∧ Byt g ∧ Byt (upd (upd f 0 z0) 31 z1)) := HF
  generalize upd (upd f 0 z0) 31 z1 = ft at *
  obtain ⟨Z, hZ⟩ : ∃ Z, Z = (bvals ft).toArray := ⟨_, rfl⟩
  have HZ : Hid (Z = (bvals ft).toArray) := hid hZ
  clear hZ hb F0 F1 F2 F3 F4 G1 AR0 BL0 c0 f0 c31 f31 EQ HF H1
  refine wp_region_held_drew (S := fun v => Arr v (w.heap.size) f ∧ Arr v (w.heap.size + 1) g ∧ Arr v (w.heap.size + 1 + 1) ft ∧ One5 v ∧ Below w.heap.size w v) (by kernel_rfl) (⟨A0, A1, A2, A3, B2.drew⟩) (fun hH0 => ?_)
  refine wpAnyH_take (i := 0) (oi := { dst := some 25, op := Op.load 22 (Operand.tmp 4), type := 22, pos := "ladder.go:67", after := #[], guard := none }) (v := .agg X) rfl (by kernel_rfl) (by kernel_rfl) (by kernel_rfl) (fun _ _ _ h => h) (y_load rfl (.tmp 4) rfl (w.heap.size) f X rfl hX (fun v hv => hv.1)) hH0 ?_
  try simp only [Act.put, List.setIfInBounds_toArray, List.set_cons_zero, List.set_cons_succ]
  refine wpAnyH_take (i := 1) (oi := { dst := some 26, op := Op.load 22 (Operand.tmp 5), type := 22, pos := "ladder.go:67", after := #[], guard := none }) (v := .agg Y) rfl (by kernel_rfl) (by kernel_rfl) (by kernel_rfl) (fun _ _ _ h => h) (y_load rfl (.tmp 5) rfl (w.heap.size + 1) g Y rfl hY (fun v hv => hv.2.1)) hH0 ?_
  try simp only [Act.put, List.setIfInBounds_toArray, List.set_cons_zero, List.set_cons_succ]
  refine wpAnyH_take (i := 3) (oi := { dst := some 28, op := Op.load 22 (Operand.tmp 9), type := 22, pos := "ladder.go:67", after := #[], guard := none }) (v := .agg Z) rfl (by kernel_rfl) (by kernel_rfl) (by kernel_rfl) (fun _ _ _ h => h) (y_load rfl (.tmp 9) rfl (w.heap.size + 1 + 1) ft Z rfl HZ (fun v hv => hv.2.2.1)) hH0 ?_
  try simp only [Act.put, List.setIfInBounds_toArray, List.set_cons_zero, List.set_cons_succ]
  refine wpAnyH_take (i := 4) (oi := { dst := some 29, op := Op.load 22 (Operand.tmp 5), type := 22, pos := "ladder.go:67", after := #[], guard := none }) (v := .agg Y) rfl (by kernel_rfl) (by kernel_rfl) (by kernel_rfl) (fun _ _ _ h => h) (y_load rfl (.tmp 5) rfl (w.heap.size + 1) g Y rfl hY (fun v hv => hv.2.1)) hH0 ?_
  try simp only [Act.put, List.setIfInBounds_toArray, List.set_cons_zero, List.set_cons_succ]
  refine wpAnyH_ready (rs := [2]) (by kernel_rfl) (by simp) (AllReadyH.cons (o := { dst := some 27, op := Op.call { callee := Callee.value (Operand.func 16), args := #[Operand.tmp 25, Operand.tmp 26], argTypes := #[22, 22] }, type := 22, pos := "ladder.go:67", after := #[{ on := 0, ground := Ground.data }, { on := 1, ground := Ground.data }], guard := none }) rfl (fun K hK => ?_) AllReadyH.nil)
  go_simp
  go_at_call 16
  refine (implMult_any f g H2.out.1 H2.out.2.1 X Y hX hY _ hH0.2.2.2.1).mono ?_
  rintro e w1 ⟨O1, rfl, hO1, hb1⟩
  go_wp2_with fail
  refine hK.out _ _ ⟨hH0.1.below hb1.out hH0.1.size, hH0.2.1.below hb1.out hH0.2.1.size, hH0.2.2.1.below hb1.out hH0.2.2.1.size, hH0.2.2.2.1.below hb1.out, hH0.2.2.2.2.trans (hb1.out.mono hH0.2.2.2.2.size)⟩ (fun hH1 => ?_)
  clear hK K
  try simp only [Act.put, List.setIfInBounds_toArray, List.set_cons_zero, List.set_cons_succ]
  refine wpAnyH_ready (rs := [5]) (by kernel_rfl) (by simp) (AllReadyH.cons (o := { dst := some 30, op := Op.call { callee := Callee.value (Operand.func 16), args := #[Operand.tmp 28, Operand.tmp 29], argTypes := #[22, 22] }, type := 22, pos := "ladder.go:67", after := #[{ on := 3, ground := Ground.data }, { on := 4, ground := Ground.data }, { on := 2, ground := Ground.chain }], guard := none }) rfl (fun K hK => ?_) AllReadyH.nil)
  go_simp
  go_at_call 16
  refine (implMult_any ft g H2.out.2.2 H2.out.2.1 Z Y HZ hY _ hH1.2.2.2.1).mono ?_
  rintro e w2 ⟨O2, rfl, hO2, hb2⟩
  go_wp2_with fail
  refine hK.out _ _ ⟨hH1.1.below hb2.out hH1.1.size, hH1.2.1.below hb2.out hH1.2.1.size, hH1.2.2.1.below hb2.out hH1.2.2.1.size, hH1.2.2.2.1.below hb2.out, hH1.2.2.2.2.trans (hb2.out.mono hH1.2.2.2.2.size)⟩ (fun hH2 => ?_)
  clear hK K
  try simp only [Act.put, List.setIfInBounds_toArray, List.set_cons_zero, List.set_cons_succ]
  refine wpAnyH_take (i := 6) (oi := { dst := some 31, op := Op.binOp BinOp.eql 22 (Operand.tmp 27) (Operand.tmp 30) 22, type := 4, pos := "ladder.go:67", after := #[{ on := 2, ground := Ground.data }, { on := 5, ground := Ground.data }], guard := none }) (v := .bool true) rfl (by kernel_rfl) (by kernel_rfl) (by kernel_rfl) (fun _ _ _ h => h) (y_eql rfl (.tmp 27) (.tmp 30) _ rfl (lad f g) (lad ft g) O1 O2 rfl rfl hO1 hO2 true (same_eq (congrArg bvals HE.out))) hH2 ?_
  try simp only [Act.put, List.setIfInBounds_toArray, List.set_cons_zero, List.set_cons_succ]
  refine wpAnyH_take (i := 7) (oi := { dst := some 32, op := Op.move (Operand.tmp 31), type := 4, pos := "ladder.go:67", after := #[{ on := 6, ground := Ground.data }, { on := 5, ground := Ground.chain }], guard := none }) (v := .bool true) rfl (by kernel_rfl) (by kernel_rfl) (by kernel_rfl) (fun _ _ _ h => h) (Or.inl ⟨rfl, fun v hv => rfl⟩) hH2 ?_
  try simp only [Act.put, List.setIfInBounds_toArray, List.set_cons_zero, List.set_cons_succ]
  refine wpAnyH_take (i := 8) (oi := { dst := some 33, op := Op.load 22 (Operand.tmp 4), type := 22, pos := "ladder.go:67", after := #[{ on := 7, ground := Ground.guard }], guard := some (7, true) }) (v := .agg X) rfl (by kernel_rfl) (by kernel_rfl) (by kernel_rfl) (fun _ _ _ h => h) (y_load rfl (.tmp 4) rfl (w.heap.size) f X rfl hX (fun v hv => hv.1)) hH2 ?_
  try simp only [Act.put, List.setIfInBounds_toArray, List.set_cons_zero, List.set_cons_succ]
  refine wpAnyH_take (i := 10) (oi := { dst := some 35, op := Op.build 22 #[], type := 22, pos := "ladder.go:67", after := #[{ on := 7, ground := Ground.guard }], guard := some (7, true) }) (v := .agg N) rfl (by kernel_rfl) (by kernel_rfl) (by kernel_rfl) (fun _ _ _ h => h) (y_build rfl _ rfl zeros N HN (by kernel_rfl)) hH2 ?_
  try simp only [Act.put, List.setIfInBounds_toArray, List.set_cons_zero, List.set_cons_succ]
  refine wpAnyH_ready (rs := [9]) (by kernel_rfl) (by simp) (AllReadyH.cons (o := { dst := some 34, op := Op.call { callee := Callee.value (Operand.func 20), args := #[Operand.tmp 33], argTypes := #[22] }, type := 22, pos := "ladder.go:67", after := #[{ on := 8, ground := Ground.data }, { on := 7, ground := Ground.chain }, { on := 7, ground := Ground.guard }], guard := some (7, true) }) rfl (fun K hK => ?_) AllReadyH.nil)
  go_simp
  go_at_call 20
  refine (implPub_any f H2.out.1 X hX _ hH2.2.2.2.1).mono ?_
  rintro e w3 ⟨O3, rfl, hO3, hb3⟩
  go_wp2_with fail
  refine hK.out _ _ ⟨hH2.1.below hb3.out hH2.1.size, hH2.2.1.below hb3.out hH2.2.1.size, hH2.2.2.1.below hb3.out hH2.2.2.1.size, hH2.2.2.2.1.below hb3.out, hH2.2.2.2.2.trans (hb3.out.mono hH2.2.2.2.2.size)⟩ (fun hH3 => ?_)
  clear hK K
  try simp only [Act.put, List.setIfInBounds_toArray, List.set_cons_zero, List.set_cons_succ]
  refine wpAnyH_take (i := 11) (oi := { dst := some 36, op := Op.binOp BinOp.neq 22 (Operand.tmp 34) (Operand.tmp 35) 22, type := 4, pos := "ladder.go:67", after := #[{ on := 9, ground := Ground.data }, { on := 10, ground := Ground.data }, { on := 7, ground := Ground.guard }], guard := some (7, true) }) (v := .bool true) rfl (by kernel_rfl) (by kernel_rfl) (by kernel_rfl) (fun _ _ _ h => h) (y_neq rfl (.tmp 34) (.tmp 35) _ rfl (lad f nine) zeros O3 N rfl rfl hO3 HN true (same_ne (lad_nine H2.out.1))) hH3 ?_
  try simp only [Act.put, List.setIfInBounds_toArray, List.set_cons_zero, List.set_cons_succ]
  refine wpAnyH_take (i := 12) (oi := { dst := some 37, op := Op.pick (Operand.tmp 32) (Operand.tmp 36) (Operand.const (Value.bool false)), type := 4, pos := "ladder.go:67", after := #[{ on := 7, ground := Ground.data }, { on := 11, ground := Ground.data }], guard := none }) (v := .bool true) rfl (by kernel_rfl) (by kernel_rfl) (by kernel_rfl) (fun _ _ _ h => h) (Or.inl ⟨rfl, fun v hv => rfl⟩) hH3 ?_
  try simp only [Act.put, List.setIfInBounds_toArray, List.set_cons_zero, List.set_cons_succ]
  refine wpAnyH_take (i := 13) (oi := { dst := some 8, op := Op.assign (Operand.tmp 37), type := 4, pos := "ladder.go:67", after := #[{ on := 12, ground := Ground.data }, { on := 9, ground := Ground.chain }, { on := 0, ground := Ground.phase }, { on := 1, ground := Ground.phase }, { on := 2, ground := Ground.phase }, { on := 3, ground := Ground.phase }, { on := 4, ground := Ground.phase }, { on := 5, ground := Ground.phase }, { on := 6, ground := Ground.phase }, { on := 7, ground := Ground.phase }, { on := 8, ground := Ground.phase }, { on := 9, ground := Ground.phase }, { on := 10, ground := Ground.phase }, { on := 11, ground := Ground.phase }, { on := 12, ground := Ground.phase }], guard := none }) (v := .bool true) rfl (by kernel_rfl) (by kernel_rfl) (by kernel_rfl) (fun _ _ _ h => h) (Or.inl ⟨rfl, fun v hv => rfl⟩) hH3 ?_
  try simp only [Act.put, List.setIfInBounds_toArray, List.set_cons_zero, List.set_cons_succ]
  refine wpAnyH_done (by kernel_rfl) ?_ _
  have BE : Hid (Below w.heap.size w _) := hid hH3.2.2.2.2
  go_wp2_with fail
  go_ret
  exact ⟨rfl, BE.out⟩
end Go.Proofs.YtflmkgecgijncaaDoor
