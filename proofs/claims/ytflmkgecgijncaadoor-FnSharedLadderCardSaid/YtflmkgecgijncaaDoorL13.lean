/-
  laws.FnSharedLadder. Printed by gen_shared.py.
-/
import Derived.Test.YtflmkgecgijncaaDoorL14
namespace Go.Proofs.YtflmkgecgijncaaDoor
open Go.RowKit Go.Shelf

theorem room_new (w : World) : Hid ((w.alloc (.cells (List.replicate 32 (Value.int .u8 0)).toArray 22)).heap[w.heap.size]? = some (.cells (List.replicate 32 (Value.int .u8 0)).toArray 22 (0, 0)) ∧ (List.replicate 32 (Value.int .u8 0)).toArray.size = 32) := hid ⟨heap_alloc_new w _, zeros_len⟩
theorem room_below (w : World) : Hid (Below w.heap.size w (w.alloc (.cells (List.replicate 32 (Value.int .u8 0)).toArray 22))) := hid ((Below.refl _ _).alloc (Nat.le_refl _) _)

set_option maxRecDepth 100000 in
set_option maxHeartbeats 2000000 in
theorem fnSharedLadder_false (f g : Nat → Int) (hf : Byt f) (hg : Byt g) (hs : same (lad f g) zeros = false) (X Y : Array Value) (hX : Hid (X = (bvals f).toArray)) (hY : Hid (Y = (bvals g).toArray)) (w : World) (h1 : One5 w) :
    Calls Tryd.prog 13 #[.agg X, .agg Y] w fun e w' => e = .returned (.bool true) ∧ Below w.heap.size w w' := by
  have H2 : Hid (Byt f ∧ Byt g) := hid ⟨hf, hg⟩
  have H1 : Hid (One5 w) := hid h1
  have HS : Hid (same (lad f g) zeros = false) := hid hs
  clear h1 hf hg hs
  obtain ⟨N, hN⟩ : ∃ N, N = (bvals zeros).toArray := ⟨_, rfl⟩
  have HN : Hid (N = (bvals zeros).toArray) := hid hN
  clear hN
  obtain ⟨F0, F1, F3⟩ := two_arr_new f g X Y hX hY w
  go_enter Tryd.func13, Tryd.ntmps13
  go_wp2_with (first | (refine load_arr rfl _ rfl w.heap.size f X rfl F0b hX ?_) | (refine load_arr rfl _ rfl (w.heap.size + 1) g Y rfl F1b hY ?_) | (refine load_arr rfl _ rfl w.heap.size f X rfl F0 hX ?_) | (refine load_arr rfl _ rfl (w.heap.size + 1) g Y rfl F1 hY ?_) | (go_at_call 22; refine (implShared_any f g H2.out.1 H2.out.2 X Y hX hY _ (H1.out.below F3.out)).mono ?_; rintro e u1 ⟨Q1, rfl, hQ1, hb1⟩; rw [show (!same (lad f g) zeros) = true by rw [HS.out]; rfl]; have K1 := room_new u1; have K2 := room_below u1) | (refine store_arr rfl _ _ rfl u1.heap.size (lad f g) Q1 _ rfl rfl K1 hQ1 u1.heap.size u1 (hid ⟨K2.out, Nat.le_refl _⟩) ?_; intro u2 AR2 BL2; have z2 := hb1.out.trans (BL2.out.mono hb1.out.size); have F0b : Hid (Arr u2 w.heap.size f) := hid (F0.out.below z2 F0.out.size); have F1b : Hid (Arr u2 (w.heap.size + 1) g) := hid (F1.out.below z2 F1.out.size); have F3b : Hid (Below w.heap.size w u2) := hid (F3.out.trans (z2.mono F3.out.size)); clear z2) | (go_at_call 16; refine (implMult_any f g H2.out.1 H2.out.2 X Y hX hY _ (H1.out.below F3b.out)).mono ?_; rintro e u3 ⟨Q3, rfl, hQ3, hb3⟩; have K3 := room_new u3; have K4 := room_below u3) | (refine store_arr rfl _ _ rfl u3.heap.size (lad f g) Q3 _ rfl rfl K3 hQ3 u3.heap.size u3 (hid ⟨K4.out, Nat.le_refl _⟩) ?_; intro u4 M7 BL4; have z4 := hb3.out.trans (BL4.out.mono hb3.out.size); have F0c : Hid (Arr u4 w.heap.size f) := hid (F0b.out.below z4 F0b.out.size); have M5 : Hid (Arr u4 u1.heap.size (lad f g)) := hid (AR2.out.below z4 AR2.out.size); have F3c : Hid (Below w.heap.size w u4) := hid (F3b.out.trans (z4.mono F3b.out.size)); clear z4))
  have P1 : Hid (One5 u4) := hid (H1.out.below F3c.out)
  clear K1 K2 K3 K4 F0 F1 F3 F0b F1b F3b hb1 hb3 BL2 BL4 AR2
  generalize u1.heap.size = b5 at *
  generalize u3.heap.size = b7 at *
  refine wp_region_held_drew (S := fun v => Below u4.heap.size u4 v) (by kernel_rfl) ((Below.refl _ _).drew) (fun hH0 => ?_)
  refine wpAnyH_take (i := 0) (oi := { dst := some 18, op := Op.load 22 (Operand.tmp 2), type := 22, pos := "ladder.go:44", after := #[], guard := none }) (v := .agg X) rfl (by kernel_rfl) (by kernel_rfl) (by kernel_rfl) (fun _ _ _ h => h) (y_load rfl (.tmp 2) rfl (w.heap.size) f X rfl hX (fun v hv => F0c.out.below hv F0c.out.size)) hH0 ?_
  try simp only [Act.put, List.setIfInBounds_toArray, List.set_cons_zero, List.set_cons_succ]
  refine wpAnyH_ready (rs := [1, 3]) (by kernel_rfl) (by simp) (AllReadyH.cons (o := { dst := some 19, op := Op.call { callee := Callee.value (Operand.func 19), args := #[], argTypes := #[] }, type := 22, pos := "ladder.go:44", after := #[], guard := none }) rfl (fun K hK => ?_) (AllReadyH.cons (o := { dst := some 8, op := Op.alloc 22, type := 0, pos := "ladder.go:44", after := #[], guard := none }) rfl (fun K hK => ?_) AllReadyH.nil))
  · go_simp
    go_at_call 19
    refine (nine_any _).mono ?_
    rintro e w1 ⟨O1, rfl, hO1, hb1⟩
    go_wp2_with fail
    refine hK.out _ _ (hH0.trans (hb1.out.mono hH0.size)) (fun hH1 => ?_)
    clear hK K
    try simp only [Act.put, List.setIfInBounds_toArray, List.set_cons_zero, List.set_cons_succ]
    refine wpAnyH_ready (rs := [2, 3]) (by kernel_rfl) (by simp) (AllReadyH.cons (o := { dst := some 20, op := Op.call { callee := Callee.value (Operand.func 16), args := #[Operand.tmp 18, Operand.tmp 19], argTypes := #[22, 22] }, type := 22, pos := "ladder.go:44", after := #[{ on := 0, ground := Ground.data }, { on := 1, ground := Ground.data }, { on := 1, ground := Ground.chain }], guard := none }) rfl (fun K hK => ?_) (AllReadyH.cons (o := { dst := some 8, op := Op.alloc 22, type := 0, pos := "ladder.go:44", after := #[], guard := none }) rfl (fun K hK => ?_) AllReadyH.nil))
    · go_simp
      go_at_call 16
      refine (implMult_any f nine H2.out.1 nine_byt X O1 hX hO1 _ (P1.out.below hH1)).mono ?_
      rintro e w2 ⟨O2, rfl, hO2, hb2⟩
      go_wp2_with fail
      refine hK.out _ _ (hH1.trans (hb2.out.mono hH1.size)) (fun hH2 => ?_)
      clear hK K
      try simp only [Act.put, List.setIfInBounds_toArray, List.set_cons_zero, List.set_cons_succ]
      refine wpAnyH_ready (rs := [3]) (by kernel_rfl) (by simp) (AllReadyH.cons (o := { dst := some 8, op := Op.alloc 22, type := 0, pos := "ladder.go:44", after := #[], guard := none }) rfl (fun K hK => ?_) AllReadyH.nil)
      · go_simp
        go_wp2_with fail
        refine hK.out _ _ (hH2.alloc hH2.size _) (fun hH3 => ?_)
        clear hK K
        try simp only [Act.put, List.setIfInBounds_toArray, List.set_cons_zero, List.set_cons_succ]
        have F3 : Hid ((World.alloc w2 (.cells (List.replicate 32 (Value.int .u8 0)).toArray 22)).heap[w2.heap.size]? = some (.cells (List.replicate 32 (Value.int .u8 0)).toArray 22 (0, 0)) ∧ (List.replicate 32 (Value.int .u8 0)).toArray.size = 32) := hid ⟨heap_alloc_new w2 _, zeros_len⟩
        have hm3 : u4.heap.size ≤ w2.heap.size := hH2.size
        refine wpAnyH_ready (rs := [4]) (by kernel_rfl) (by simp) (AllReadyH.cons (o := { dst := none, op := Op.store 22 (Operand.tmp 8) (Operand.tmp 20), type := 0, pos := "ladder.go:44", after := #[{ on := 3, ground := Ground.data }, { on := 2, ground := Ground.data }, { on := 2, ground := Ground.chain }, { on := 0, ground := Ground.phase }, { on := 1, ground := Ground.phase }, { on := 2, ground := Ground.phase }, { on := 3, ground := Ground.phase }], guard := none }) rfl (fun K hK => ?_) AllReadyH.nil)
        · refine step_store_arr rfl (.tmp 8) (.tmp 20) rfl (w2.heap.size) (lad f nine) O2 _ rfl rfl F3 hO2 u4.heap.size u4 ⟨hH3, hm3⟩ ?_
          intro w4 AR4 hB4
          refine hK.out _ _ hB4 (fun hH4 => ?_)
          clear hK K
          try simp only [Act.put]
          refine wpAnyH_done (by kernel_rfl) ?_ _
          go_wp2_with (first | (refine wpList_y (S := fun v => Arr v (b7) (lad f g)) (y_load rfl (.tmp 7) rfl (b7) (lad f g) Q3 rfl hQ3 (fun _ h => h)) (M7.out.below hH4 M7.out.size) ?_) | (refine wpList_y (S := fun v => Arr v (b5) (lad f g)) (y_load rfl (.tmp 5) rfl (b5) (lad f g) Q1 rfl hQ1 (fun _ h => h)) (M5.out.below hH4 M5.out.size) ?_) | (refine wpList_y (S := fun v => Arr v (w2.heap.size) (lad f nine)) (y_load rfl (.tmp 8) rfl (w2.heap.size) (lad f nine) O2 rfl hO2 (fun _ h => h)) (AR4) ?_) | (refine wpList_y (S := fun _ => True) (y_build rfl _ rfl zeros N HN (by kernel_rfl)) trivial ?_) | (refine wpList_y (S := fun _ => True) (y_neq rfl (.tmp 22) (.tmp 23) _ rfl (lad f g) zeros Q3 N rfl rfl hQ3 HN true (by rw [HS.out]; rfl)) trivial ?_) | (refine wpList_y (S := fun _ => True) (y_eql rfl (.tmp 30) (.tmp 31) _ rfl (lad f g) (lad f g) Q1 Q3 rfl rfl hQ1 hQ3 true (same_eq rfl)) trivial ?_) | (refine wpList_y (S := fun _ => True) (y_neq rfl (.tmp 36) (.tmp 37) _ rfl (lad f nine) zeros O2 N rfl rfl hO2 HN true (same_ne (lad_nine H2.out.1))) trivial ?_))
          go_ret
          exact ⟨rfl, F3c.out.trans (hH4.mono F3c.out.size)⟩
    · go_simp
      go_wp2_with fail
      refine hK.out _ _ (hH1.alloc hH1.size _) (fun hH5 => ?_)
      clear hK K
      try simp only [Act.put, List.setIfInBounds_toArray, List.set_cons_zero, List.set_cons_succ]
      have F5 : Hid ((World.alloc w1 (.cells (List.replicate 32 (Value.int .u8 0)).toArray 22)).heap[w1.heap.size]? = some (.cells (List.replicate 32 (Value.int .u8 0)).toArray 22 (0, 0)) ∧ (List.replicate 32 (Value.int .u8 0)).toArray.size = 32) := hid ⟨heap_alloc_new w1 _, zeros_len⟩
      have hm5 : u4.heap.size ≤ w1.heap.size := hH1.size
      refine wpAnyH_ready (rs := [2]) (by kernel_rfl) (by simp) (AllReadyH.cons (o := { dst := some 20, op := Op.call { callee := Callee.value (Operand.func 16), args := #[Operand.tmp 18, Operand.tmp 19], argTypes := #[22, 22] }, type := 22, pos := "ladder.go:44", after := #[{ on := 0, ground := Ground.data }, { on := 1, ground := Ground.data }, { on := 1, ground := Ground.chain }], guard := none }) rfl (fun K hK => ?_) AllReadyH.nil)
      · go_simp
        go_at_call 16
        refine (implMult_any f nine H2.out.1 nine_byt X O1 hX hO1 _ (P1.out.below hH5)).mono ?_
        rintro e w6 ⟨O6, rfl, hO6, hb6⟩
        go_wp2_with fail
        refine hK.out _ _ (hH5.trans (hb6.out.mono hH5.size)) (fun hH6 => ?_)
        clear hK K
        try simp only [Act.put, List.setIfInBounds_toArray, List.set_cons_zero, List.set_cons_succ]
        have F6 := cells_after F5 hb6
        refine wpAnyH_ready (rs := [4]) (by kernel_rfl) (by simp) (AllReadyH.cons (o := { dst := none, op := Op.store 22 (Operand.tmp 8) (Operand.tmp 20), type := 0, pos := "ladder.go:44", after := #[{ on := 3, ground := Ground.data }, { on := 2, ground := Ground.data }, { on := 2, ground := Ground.chain }, { on := 0, ground := Ground.phase }, { on := 1, ground := Ground.phase }, { on := 2, ground := Ground.phase }, { on := 3, ground := Ground.phase }], guard := none }) rfl (fun K hK => ?_) AllReadyH.nil)
        · refine step_store_arr rfl (.tmp 8) (.tmp 20) rfl (w1.heap.size) (lad f nine) O6 _ rfl rfl F6 hO6 u4.heap.size u4 ⟨hH6, hm5⟩ ?_
          intro w7 AR7 hB7
          refine hK.out _ _ hB7 (fun hH7 => ?_)
          clear hK K
          try simp only [Act.put]
          refine wpAnyH_done (by kernel_rfl) ?_ _
          go_wp2_with (first | (refine wpList_y (S := fun v => Arr v (b7) (lad f g)) (y_load rfl (.tmp 7) rfl (b7) (lad f g) Q3 rfl hQ3 (fun _ h => h)) (M7.out.below hH7 M7.out.size) ?_) | (refine wpList_y (S := fun v => Arr v (b5) (lad f g)) (y_load rfl (.tmp 5) rfl (b5) (lad f g) Q1 rfl hQ1 (fun _ h => h)) (M5.out.below hH7 M5.out.size) ?_) | (refine wpList_y (S := fun v => Arr v (w1.heap.size) (lad f nine)) (y_load rfl (.tmp 8) rfl (w1.heap.size) (lad f nine) O6 rfl hO6 (fun _ h => h)) (AR7) ?_) | (refine wpList_y (S := fun _ => True) (y_build rfl _ rfl zeros N HN (by kernel_rfl)) trivial ?_) | (refine wpList_y (S := fun _ => True) (y_neq rfl (.tmp 22) (.tmp 23) _ rfl (lad f g) zeros Q3 N rfl rfl hQ3 HN true (by rw [HS.out]; rfl)) trivial ?_) | (refine wpList_y (S := fun _ => True) (y_eql rfl (.tmp 30) (.tmp 31) _ rfl (lad f g) (lad f g) Q1 Q3 rfl rfl hQ1 hQ3 true (same_eq rfl)) trivial ?_) | (refine wpList_y (S := fun _ => True) (y_neq rfl (.tmp 36) (.tmp 37) _ rfl (lad f nine) zeros O6 N rfl rfl hO6 HN true (same_ne (lad_nine H2.out.1))) trivial ?_))
          go_ret
          exact ⟨rfl, F3c.out.trans (hH7.mono F3c.out.size)⟩
  · go_simp
    go_wp2_with fail
    refine hK.out _ _ (hH0.alloc hH0.size _) (fun hH8 => ?_)
    clear hK K
    try simp only [Act.put, List.setIfInBounds_toArray, List.set_cons_zero, List.set_cons_succ]
    have F8 : Hid ((World.alloc u4.drew (.cells (List.replicate 32 (Value.int .u8 0)).toArray 22)).heap[u4.drew.heap.size]? = some (.cells (List.replicate 32 (Value.int .u8 0)).toArray 22 (0, 0)) ∧ (List.replicate 32 (Value.int .u8 0)).toArray.size = 32) := hid ⟨heap_alloc_new u4.drew _, zeros_len⟩
    have hm8 : u4.heap.size ≤ u4.drew.heap.size := hH0.size
    refine wpAnyH_ready (rs := [1]) (by kernel_rfl) (by simp) (AllReadyH.cons (o := { dst := some 19, op := Op.call { callee := Callee.value (Operand.func 19), args := #[], argTypes := #[] }, type := 22, pos := "ladder.go:44", after := #[], guard := none }) rfl (fun K hK => ?_) AllReadyH.nil)
    · go_simp
      go_at_call 19
      refine (nine_any _).mono ?_
      rintro e w9 ⟨O9, rfl, hO9, hb9⟩
      go_wp2_with fail
      refine hK.out _ _ (hH8.trans (hb9.out.mono hH8.size)) (fun hH9 => ?_)
      clear hK K
      try simp only [Act.put, List.setIfInBounds_toArray, List.set_cons_zero, List.set_cons_succ]
      have F9 := cells_after F8 hb9
      refine wpAnyH_ready (rs := [2]) (by kernel_rfl) (by simp) (AllReadyH.cons (o := { dst := some 20, op := Op.call { callee := Callee.value (Operand.func 16), args := #[Operand.tmp 18, Operand.tmp 19], argTypes := #[22, 22] }, type := 22, pos := "ladder.go:44", after := #[{ on := 0, ground := Ground.data }, { on := 1, ground := Ground.data }, { on := 1, ground := Ground.chain }], guard := none }) rfl (fun K hK => ?_) AllReadyH.nil)
      · go_simp
        go_at_call 16
        refine (implMult_any f nine H2.out.1 nine_byt X O9 hX hO9 _ (P1.out.below hH9)).mono ?_
        rintro e w10 ⟨O10, rfl, hO10, hb10⟩
        go_wp2_with fail
        refine hK.out _ _ (hH9.trans (hb10.out.mono hH9.size)) (fun hH10 => ?_)
        clear hK K
        try simp only [Act.put, List.setIfInBounds_toArray, List.set_cons_zero, List.set_cons_succ]
        have F10 := cells_after F9 hb10
        refine wpAnyH_ready (rs := [4]) (by kernel_rfl) (by simp) (AllReadyH.cons (o := { dst := none, op := Op.store 22 (Operand.tmp 8) (Operand.tmp 20), type := 0, pos := "ladder.go:44", after := #[{ on := 3, ground := Ground.data }, { on := 2, ground := Ground.data }, { on := 2, ground := Ground.chain }, { on := 0, ground := Ground.phase }, { on := 1, ground := Ground.phase }, { on := 2, ground := Ground.phase }, { on := 3, ground := Ground.phase }], guard := none }) rfl (fun K hK => ?_) AllReadyH.nil)
        · refine step_store_arr rfl (.tmp 8) (.tmp 20) rfl (u4.drew.heap.size) (lad f nine) O10 _ rfl rfl F10 hO10 u4.heap.size u4 ⟨hH10, hm8⟩ ?_
          intro w11 AR11 hB11
          refine hK.out _ _ hB11 (fun hH11 => ?_)
          clear hK K
          try simp only [Act.put]
          refine wpAnyH_done (by kernel_rfl) ?_ _
          go_wp2_with (first | (refine wpList_y (S := fun v => Arr v (b7) (lad f g)) (y_load rfl (.tmp 7) rfl (b7) (lad f g) Q3 rfl hQ3 (fun _ h => h)) (M7.out.below hH11 M7.out.size) ?_) | (refine wpList_y (S := fun v => Arr v (b5) (lad f g)) (y_load rfl (.tmp 5) rfl (b5) (lad f g) Q1 rfl hQ1 (fun _ h => h)) (M5.out.below hH11 M5.out.size) ?_) | (refine wpList_y (S := fun v => Arr v (u4.drew.heap.size) (lad f nine)) (y_load rfl (.tmp 8) rfl (u4.drew.heap.size) (lad f nine) O10 rfl hO10 (fun _ h => h)) (AR11) ?_) | (refine wpList_y (S := fun _ => True) (y_build rfl _ rfl zeros N HN (by kernel_rfl)) trivial ?_) | (refine wpList_y (S := fun _ => True) (y_neq rfl (.tmp 22) (.tmp 23) _ rfl (lad f g) zeros Q3 N rfl rfl hQ3 HN true (by rw [HS.out]; rfl)) trivial ?_) | (refine wpList_y (S := fun _ => True) (y_eql rfl (.tmp 30) (.tmp 31) _ rfl (lad f g) (lad f g) Q1 Q3 rfl rfl hQ1 hQ3 true (same_eq rfl)) trivial ?_) | (refine wpList_y (S := fun _ => True) (y_neq rfl (.tmp 36) (.tmp 37) _ rfl (lad f nine) zeros O10 N rfl rfl hO10 HN true (same_ne (lad_nine H2.out.1))) trivial ?_))
          go_ret
          exact ⟨rfl, F3c.out.trans (hH11.mono F3c.out.size)⟩

set_option maxRecDepth 100000 in
set_option maxHeartbeats 2000000 in
theorem fnSharedLadder_true (f g : Nat → Int) (hf : Byt f) (hg : Byt g) (hs : same (lad f g) zeros = true) (X Y : Array Value) (hX : Hid (X = (bvals f).toArray)) (hY : Hid (Y = (bvals g).toArray)) (w : World) (h1 : One5 w) :
    Calls Tryd.prog 13 #[.agg X, .agg Y] w fun e w' => e = .returned (.bool true) ∧ Below w.heap.size w w' := by
  have H2 : Hid (Byt f ∧ Byt g) := hid ⟨hf, hg⟩
  have H1 : Hid (One5 w) := hid h1
  have HS : Hid (same (lad f g) zeros = true) := hid hs
  clear h1 hf hg hs
  obtain ⟨N, hN⟩ : ∃ N, N = (bvals zeros).toArray := ⟨_, rfl⟩
  have HN : Hid (N = (bvals zeros).toArray) := hid hN
  clear hN
  obtain ⟨F0, F1, F3⟩ := two_arr_new f g X Y hX hY w
  go_enter Tryd.func13, Tryd.ntmps13
  go_wp2_with (first | (refine load_arr rfl _ rfl w.heap.size f X rfl F0b hX ?_) | (refine load_arr rfl _ rfl (w.heap.size + 1) g Y rfl F1b hY ?_) | (refine load_arr rfl _ rfl w.heap.size f X rfl F0 hX ?_) | (refine load_arr rfl _ rfl (w.heap.size + 1) g Y rfl F1 hY ?_) | (go_at_call 22; refine (implShared_any f g H2.out.1 H2.out.2 X Y hX hY _ (H1.out.below F3.out)).mono ?_; rintro e u1 ⟨Q1, rfl, hQ1, hb1⟩; rw [show (!same (lad f g) zeros) = false by rw [HS.out]; rfl]; have K1 := room_new u1; have K2 := room_below u1) | (refine store_arr rfl _ _ rfl u1.heap.size (lad f g) Q1 _ rfl rfl K1 hQ1 u1.heap.size u1 (hid ⟨K2.out, Nat.le_refl _⟩) ?_; intro u2 AR2 BL2; have z2 := hb1.out.trans (BL2.out.mono hb1.out.size); have F0b : Hid (Arr u2 w.heap.size f) := hid (F0.out.below z2 F0.out.size); have F1b : Hid (Arr u2 (w.heap.size + 1) g) := hid (F1.out.below z2 F1.out.size); have F3b : Hid (Below w.heap.size w u2) := hid (F3.out.trans (z2.mono F3.out.size)); clear z2) | (go_at_call 16; refine (implMult_any f g H2.out.1 H2.out.2 X Y hX hY _ (H1.out.below F3b.out)).mono ?_; rintro e u3 ⟨Q3, rfl, hQ3, hb3⟩; have K3 := room_new u3; have K4 := room_below u3) | (refine store_arr rfl _ _ rfl u3.heap.size (lad f g) Q3 _ rfl rfl K3 hQ3 u3.heap.size u3 (hid ⟨K4.out, Nat.le_refl _⟩) ?_; intro u4 M7 BL4; have z4 := hb3.out.trans (BL4.out.mono hb3.out.size); have F0c : Hid (Arr u4 w.heap.size f) := hid (F0b.out.below z4 F0b.out.size); have M5 : Hid (Arr u4 u1.heap.size (lad f g)) := hid (AR2.out.below z4 AR2.out.size); have F3c : Hid (Below w.heap.size w u4) := hid (F3b.out.trans (z4.mono F3b.out.size)); clear z4))
  have P1 : Hid (One5 u4) := hid (H1.out.below F3c.out)
  clear K1 K2 K3 K4 F0 F1 F3 F0b F1b F3b hb1 hb3 BL2 BL4 AR2
  generalize u1.heap.size = b5 at *
  generalize u3.heap.size = b7 at *
  refine wp_region_held_drew (S := fun v => Below u4.heap.size u4 v) (by kernel_rfl) ((Below.refl _ _).drew) (fun hH0 => ?_)
  refine wpAnyH_take (i := 0) (oi := { dst := some 18, op := Op.load 22 (Operand.tmp 2), type := 22, pos := "ladder.go:44", after := #[], guard := none }) (v := .agg X) rfl (by kernel_rfl) (by kernel_rfl) (by kernel_rfl) (fun _ _ _ h => h) (y_load rfl (.tmp 2) rfl (w.heap.size) f X rfl hX (fun v hv => F0c.out.below hv F0c.out.size)) hH0 ?_
  try simp only [Act.put, List.setIfInBounds_toArray, List.set_cons_zero, List.set_cons_succ]
  refine wpAnyH_ready (rs := [1, 3]) (by kernel_rfl) (by simp) (AllReadyH.cons (o := { dst := some 19, op := Op.call { callee := Callee.value (Operand.func 19), args := #[], argTypes := #[] }, type := 22, pos := "ladder.go:44", after := #[], guard := none }) rfl (fun K hK => ?_) (AllReadyH.cons (o := { dst := some 8, op := Op.alloc 22, type := 0, pos := "ladder.go:44", after := #[], guard := none }) rfl (fun K hK => ?_) AllReadyH.nil))
  · go_simp
    go_at_call 19
    refine (nine_any _).mono ?_
    rintro e w1 ⟨O1, rfl, hO1, hb1⟩
    go_wp2_with fail
    refine hK.out _ _ (hH0.trans (hb1.out.mono hH0.size)) (fun hH1 => ?_)
    clear hK K
    try simp only [Act.put, List.setIfInBounds_toArray, List.set_cons_zero, List.set_cons_succ]
    refine wpAnyH_ready (rs := [2, 3]) (by kernel_rfl) (by simp) (AllReadyH.cons (o := { dst := some 20, op := Op.call { callee := Callee.value (Operand.func 16), args := #[Operand.tmp 18, Operand.tmp 19], argTypes := #[22, 22] }, type := 22, pos := "ladder.go:44", after := #[{ on := 0, ground := Ground.data }, { on := 1, ground := Ground.data }, { on := 1, ground := Ground.chain }], guard := none }) rfl (fun K hK => ?_) (AllReadyH.cons (o := { dst := some 8, op := Op.alloc 22, type := 0, pos := "ladder.go:44", after := #[], guard := none }) rfl (fun K hK => ?_) AllReadyH.nil))
    · go_simp
      go_at_call 16
      refine (implMult_any f nine H2.out.1 nine_byt X O1 hX hO1 _ (P1.out.below hH1)).mono ?_
      rintro e w2 ⟨O2, rfl, hO2, hb2⟩
      go_wp2_with fail
      refine hK.out _ _ (hH1.trans (hb2.out.mono hH1.size)) (fun hH2 => ?_)
      clear hK K
      try simp only [Act.put, List.setIfInBounds_toArray, List.set_cons_zero, List.set_cons_succ]
      refine wpAnyH_ready (rs := [3]) (by kernel_rfl) (by simp) (AllReadyH.cons (o := { dst := some 8, op := Op.alloc 22, type := 0, pos := "ladder.go:44", after := #[], guard := none }) rfl (fun K hK => ?_) AllReadyH.nil)
      · go_simp
        go_wp2_with fail
        refine hK.out _ _ (hH2.alloc hH2.size _) (fun hH3 => ?_)
        clear hK K
        try simp only [Act.put, List.setIfInBounds_toArray, List.set_cons_zero, List.set_cons_succ]
        have F3 : Hid ((World.alloc w2 (.cells (List.replicate 32 (Value.int .u8 0)).toArray 22)).heap[w2.heap.size]? = some (.cells (List.replicate 32 (Value.int .u8 0)).toArray 22 (0, 0)) ∧ (List.replicate 32 (Value.int .u8 0)).toArray.size = 32) := hid ⟨heap_alloc_new w2 _, zeros_len⟩
        have hm3 : u4.heap.size ≤ w2.heap.size := hH2.size
        refine wpAnyH_ready (rs := [4]) (by kernel_rfl) (by simp) (AllReadyH.cons (o := { dst := none, op := Op.store 22 (Operand.tmp 8) (Operand.tmp 20), type := 0, pos := "ladder.go:44", after := #[{ on := 3, ground := Ground.data }, { on := 2, ground := Ground.data }, { on := 2, ground := Ground.chain }, { on := 0, ground := Ground.phase }, { on := 1, ground := Ground.phase }, { on := 2, ground := Ground.phase }, { on := 3, ground := Ground.phase }], guard := none }) rfl (fun K hK => ?_) AllReadyH.nil)
        · refine step_store_arr rfl (.tmp 8) (.tmp 20) rfl (w2.heap.size) (lad f nine) O2 _ rfl rfl F3 hO2 u4.heap.size u4 ⟨hH3, hm3⟩ ?_
          intro w4 AR4 hB4
          refine hK.out _ _ hB4 (fun hH4 => ?_)
          clear hK K
          try simp only [Act.put]
          refine wpAnyH_done (by kernel_rfl) ?_ _
          go_wp2_with (first | (refine wpList_y (S := fun v => Arr v (b7) (lad f g)) (y_load rfl (.tmp 7) rfl (b7) (lad f g) Q3 rfl hQ3 (fun _ h => h)) (M7.out.below hH4 M7.out.size) ?_) | (refine wpList_y (S := fun v => Arr v (b5) (lad f g)) (y_load rfl (.tmp 5) rfl (b5) (lad f g) Q1 rfl hQ1 (fun _ h => h)) (M5.out.below hH4 M5.out.size) ?_) | (refine wpList_y (S := fun v => Arr v (w2.heap.size) (lad f nine)) (y_load rfl (.tmp 8) rfl (w2.heap.size) (lad f nine) O2 rfl hO2 (fun _ h => h)) (AR4) ?_) | (refine wpList_y (S := fun _ => True) (y_build rfl _ rfl zeros N HN (by kernel_rfl)) trivial ?_) | (refine wpList_y (S := fun _ => True) (y_neq rfl (.tmp 22) (.tmp 23) _ rfl (lad f g) zeros Q3 N rfl rfl hQ3 HN false (by rw [HS.out]; rfl)) trivial ?_) | (refine wpList_y (S := fun _ => True) (y_eql rfl (.tmp 30) (.tmp 31) _ rfl (lad f g) (lad f g) Q1 Q3 rfl rfl hQ1 hQ3 true (same_eq rfl)) trivial ?_) | (refine wpList_y (S := fun _ => True) (y_neq rfl (.tmp 36) (.tmp 37) _ rfl (lad f nine) zeros O2 N rfl rfl hO2 HN true (same_ne (lad_nine H2.out.1))) trivial ?_))
          go_ret
          exact ⟨rfl, F3c.out.trans (hH4.mono F3c.out.size)⟩
    · go_simp
      go_wp2_with fail
      refine hK.out _ _ (hH1.alloc hH1.size _) (fun hH5 => ?_)
      clear hK K
      try simp only [Act.put, List.setIfInBounds_toArray, List.set_cons_zero, List.set_cons_succ]
      have F5 : Hid ((World.alloc w1 (.cells (List.replicate 32 (Value.int .u8 0)).toArray 22)).heap[w1.heap.size]? = some (.cells (List.replicate 32 (Value.int .u8 0)).toArray 22 (0, 0)) ∧ (List.replicate 32 (Value.int .u8 0)).toArray.size = 32) := hid ⟨heap_alloc_new w1 _, zeros_len⟩
      have hm5 : u4.heap.size ≤ w1.heap.size := hH1.size
      refine wpAnyH_ready (rs := [2]) (by kernel_rfl) (by simp) (AllReadyH.cons (o := { dst := some 20, op := Op.call { callee := Callee.value (Operand.func 16), args := #[Operand.tmp 18, Operand.tmp 19], argTypes := #[22, 22] }, type := 22, pos := "ladder.go:44", after := #[{ on := 0, ground := Ground.data }, { on := 1, ground := Ground.data }, { on := 1, ground := Ground.chain }], guard := none }) rfl (fun K hK => ?_) AllReadyH.nil)
      · go_simp
        go_at_call 16
        refine (implMult_any f nine H2.out.1 nine_byt X O1 hX hO1 _ (P1.out.below hH5)).mono ?_
        rintro e w6 ⟨O6, rfl, hO6, hb6⟩
        go_wp2_with fail
        refine hK.out _ _ (hH5.trans (hb6.out.mono hH5.size)) (fun hH6 => ?_)
        clear hK K
        try simp only [Act.put, List.setIfInBounds_toArray, List.set_cons_zero, List.set_cons_succ]
        have F6 := cells_after F5 hb6
        refine wpAnyH_ready (rs := [4]) (by kernel_rfl) (by simp) (AllReadyH.cons (o := { dst := none, op := Op.store 22 (Operand.tmp 8) (Operand.tmp 20), type := 0, pos := "ladder.go:44", after := #[{ on := 3, ground := Ground.data }, { on := 2, ground := Ground.data }, { on := 2, ground := Ground.chain }, { on := 0, ground := Ground.phase }, { on := 1, ground := Ground.phase }, { on := 2, ground := Ground.phase }, { on := 3, ground := Ground.phase }], guard := none }) rfl (fun K hK => ?_) AllReadyH.nil)
        · refine step_store_arr rfl (.tmp 8) (.tmp 20) rfl (w1.heap.size) (lad f nine) O6 _ rfl rfl F6 hO6 u4.heap.size u4 ⟨hH6, hm5⟩ ?_
          intro w7 AR7 hB7
          refine hK.out _ _ hB7 (fun hH7 => ?_)
          clear hK K
          try simp only [Act.put]
          refine wpAnyH_done (by kernel_rfl) ?_ _
          go_wp2_with (first | (refine wpList_y (S := fun v => Arr v (b7) (lad f g)) (y_load rfl (.tmp 7) rfl (b7) (lad f g) Q3 rfl hQ3 (fun _ h => h)) (M7.out.below hH7 M7.out.size) ?_) | (refine wpList_y (S := fun v => Arr v (b5) (lad f g)) (y_load rfl (.tmp 5) rfl (b5) (lad f g) Q1 rfl hQ1 (fun _ h => h)) (M5.out.below hH7 M5.out.size) ?_) | (refine wpList_y (S := fun v => Arr v (w1.heap.size) (lad f nine)) (y_load rfl (.tmp 8) rfl (w1.heap.size) (lad f nine) O6 rfl hO6 (fun _ h => h)) (AR7) ?_) | (refine wpList_y (S := fun _ => True) (y_build rfl _ rfl zeros N HN (by kernel_rfl)) trivial ?_) | (refine wpList_y (S := fun _ => True) (y_neq rfl (.tmp 22) (.tmp 23) _ rfl (lad f g) zeros Q3 N rfl rfl hQ3 HN false (by rw [HS.out]; rfl)) trivial ?_) | (refine wpList_y (S := fun _ => True) (y_eql rfl (.tmp 30) (.tmp 31) _ rfl (lad f g) (lad f g) Q1 Q3 rfl rfl hQ1 hQ3 true (same_eq rfl)) trivial ?_) | (refine wpList_y (S := fun _ => True) (y_neq rfl (.tmp 36) (.tmp 37) _ rfl (lad f nine) zeros O6 N rfl rfl hO6 HN true (same_ne (lad_nine H2.out.1))) trivial ?_))
          go_ret
          exact ⟨rfl, F3c.out.trans (hH7.mono F3c.out.size)⟩
  · go_simp
    go_wp2_with fail
    refine hK.out _ _ (hH0.alloc hH0.size _) (fun hH8 => ?_)
    clear hK K
    try simp only [Act.put, List.setIfInBounds_toArray, List.set_cons_zero, List.set_cons_succ]
    have F8 : Hid ((World.alloc u4.drew (.cells (List.replicate 32 (Value.int .u8 0)).toArray 22)).heap[u4.drew.heap.size]? = some (.cells (List.replicate 32 (Value.int .u8 0)).toArray 22 (0, 0)) ∧ (List.replicate 32 (Value.int .u8 0)).toArray.size = 32) := hid ⟨heap_alloc_new u4.drew _, zeros_len⟩
    have hm8 : u4.heap.size ≤ u4.drew.heap.size := hH0.size
    refine wpAnyH_ready (rs := [1]) (by kernel_rfl) (by simp) (AllReadyH.cons (o := { dst := some 19, op := Op.call { callee := Callee.value (Operand.func 19), args := #[], argTypes := #[] }, type := 22, pos := "ladder.go:44", after := #[], guard := none }) rfl (fun K hK => ?_) AllReadyH.nil)
    · go_simp
      go_at_call 19
      refine (nine_any _).mono ?_
      rintro e w9 ⟨O9, rfl, hO9, hb9⟩
      go_wp2_with fail
      refine hK.out _ _ (hH8.trans (hb9.out.mono hH8.size)) (fun hH9 => ?_)
      clear hK K
      try simp only [Act.put, List.setIfInBounds_toArray, List.set_cons_zero, List.set_cons_succ]
      have F9 := cells_after F8 hb9
      refine wpAnyH_ready (rs := [2]) (by kernel_rfl) (by simp) (AllReadyH.cons (o := { dst := some 20, op := Op.call { callee := Callee.value (Operand.func 16), args := #[Operand.tmp 18, Operand.tmp 19], argTypes := #[22, 22] }, type := 22, pos := "ladder.go:44", after := #[{ on := 0, ground := Ground.data }, { on := 1, ground := Ground.data }, { on := 1, ground := Ground.chain }], guard := none }) rfl (fun K hK => ?_) AllReadyH.nil)
      · go_simp
        go_at_call 16
        refine (implMult_any f nine H2.out.1 nine_byt X O9 hX hO9 _ (P1.out.below hH9)).mono ?_
        rintro e w10 ⟨O10, rfl, hO10, hb10⟩
        go_wp2_with fail
        refine hK.out _ _ (hH9.trans (hb10.out.mono hH9.size)) (fun hH10 => ?_)
        clear hK K
        try simp only [Act.put, List.setIfInBounds_toArray, List.set_cons_zero, List.set_cons_succ]
        have F10 := cells_after F9 hb10
        refine wpAnyH_ready (rs := [4]) (by kernel_rfl) (by simp) (AllReadyH.cons (o := { dst := none, op := Op.store 22 (Operand.tmp 8) (Operand.tmp 20), type := 0, pos := "ladder.go:44", after := #[{ on := 3, ground := Ground.data }, { on := 2, ground := Ground.data }, { on := 2, ground := Ground.chain }, { on := 0, ground := Ground.phase }, { on := 1, ground := Ground.phase }, { on := 2, ground := Ground.phase }, { on := 3, ground := Ground.phase }], guard := none }) rfl (fun K hK => ?_) AllReadyH.nil)
        · refine step_store_arr rfl (.tmp 8) (.tmp 20) rfl (u4.drew.heap.size) (lad f nine) O10 _ rfl rfl F10 hO10 u4.heap.size u4 ⟨hH10, hm8⟩ ?_
          intro w11 AR11 hB11
          refine hK.out _ _ hB11 (fun hH11 => ?_)
          clear hK K
          try simp only [Act.put]
          refine wpAnyH_done (by kernel_rfl) ?_ _
          go_wp2_with (first | (refine wpList_y (S := fun v => Arr v (b7) (lad f g)) (y_load rfl (.tmp 7) rfl (b7) (lad f g) Q3 rfl hQ3 (fun _ h => h)) (M7.out.below hH11 M7.out.size) ?_) | (refine wpList_y (S := fun v => Arr v (b5) (lad f g)) (y_load rfl (.tmp 5) rfl (b5) (lad f g) Q1 rfl hQ1 (fun _ h => h)) (M5.out.below hH11 M5.out.size) ?_) | (refine wpList_y (S := fun v => Arr v (u4.drew.heap.size) (lad f nine)) (y_load rfl (.tmp 8) rfl (u4.drew.heap.size) (lad f nine) O10 rfl hO10 (fun _ h => h)) (AR11) ?_) | (refine wpList_y (S := fun _ => True) (y_build rfl _ rfl zeros N HN (by kernel_rfl)) trivial ?_) | (refine wpList_y (S := fun _ => True) (y_neq rfl (.tmp 22) (.tmp 23) _ rfl (lad f g) zeros Q3 N rfl rfl hQ3 HN false (by rw [HS.out]; rfl)) trivial ?_) | (refine wpList_y (S := fun _ => True) (y_eql rfl (.tmp 30) (.tmp 31) _ rfl (lad f g) (lad f g) Q1 Q3 rfl rfl hQ1 hQ3 true (same_eq rfl)) trivial ?_) | (refine wpList_y (S := fun _ => True) (y_neq rfl (.tmp 36) (.tmp 37) _ rfl (lad f nine) zeros O10 N rfl rfl hO10 HN true (same_ne (lad_nine H2.out.1))) trivial ?_))
          go_ret
          exact ⟨rfl, F3c.out.trans (hH11.mono F3c.out.size)⟩

theorem fnSharedLadder_any (f g : Nat → Int) (hf : Byt f) (hg : Byt g) (X Y : Array Value) (hX : Hid (X = (bvals f).toArray)) (hY : Hid (Y = (bvals g).toArray)) (w : World) (h1 : One5 w) :
    Calls Tryd.prog 13 #[.agg X, .agg Y] w fun e w' => e = .returned (.bool true) ∧ Below w.heap.size w w' := by
  cases hs : same (lad f g) zeros
  · exact fnSharedLadder_false f g hf hg hs X Y hX hY w h1
  · exact fnSharedLadder_true f g hf hg hs X Y hX hY w h1
end Go.Proofs.YtflmkgecgijncaaDoor
