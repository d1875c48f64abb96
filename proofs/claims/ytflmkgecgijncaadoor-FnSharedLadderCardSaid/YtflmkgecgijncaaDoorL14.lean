/-
  laws.FnAgree. Printed by gen_agree.py.
-/
import Derived.Test.YtflmkgecgijncaaDoorF26
import Derived.Test.YtflmkgecgijncaaDoorM7
namespace Go.Proofs.YtflmkgecgijncaaDoor
open Go.RowKit Go.Shelf

theorem sure {f : Nat → Int} (h : bvals f ≠ bvals zeros) : (!same f zeros) = true := (same_ne h).symm

theorem two_arr_new (f g : Nat → Int) (X Y : Array Value) (hX : Hid (X = (bvals f).toArray)) (hY : Hid (Y = (bvals g).toArray)) (w : World) :
    Hid (Arr ((w.alloc (.cells X 22)).alloc (.cells Y 22)) w.heap.size f) ∧ Hid (Arr ((w.alloc (.cells X 22)).alloc (.cells Y 22)) (w.heap.size + 1) g) ∧ Hid (Below w.heap.size w ((w.alloc (.cells X 22)).alloc (.cells Y 22))) := by
  obtain ⟨_, h0, _, h1, h2, h3⟩ := two_arr f g X Y hX hY w
  rw [← h0]; exact ⟨hid h2, hid h3, hid h1⟩

set_option maxRecDepth 100000 in
set_option maxHeartbeats 2000000 in
theorem fnAgree_any (f g : Nat → Int) (hf : Byt f) (hg : Byt g) (X Y : Array Value) (hX : Hid (X = (bvals f).toArray)) (hY : Hid (Y = (bvals g).toArray)) (w : World) (h1 : One5 w) :
    Calls Tryd.prog 14 #[.agg X, .agg Y] w fun e w' => e = .returned (.bool true) ∧ Below w.heap.size w w' := by
  have H2 : Hid (Byt f ∧ Byt g) := hid ⟨hf, hg⟩
  have H1 : Hid (One5 w) := hid h1
  clear h1 hf hg
  obtain ⟨F0, F1, F3⟩ := two_arr_new f g X Y hX hY w
  go_enter Tryd.func14, Tryd.ntmps14
  go_wp2_with fail
  have P1 : Hid (One5 _) := hid (H1.out.below F3.out)
  generalize hW1 : World.alloc (World.alloc w _) _ = W1 at F0 F1 F3 P1 ⊢
  clear hW1
  refine region_cut (fun a v => ∃ (m : Nat) (U1 U2 : Array Value), a = ⟨#[.agg X, .agg Y, .pointer (some ⟨w.heap.size, 0, none⟩), .pointer (some ⟨w.heap.size + 1, 0, none⟩), .bool false, .pointer (some ⟨m, 0, none⟩), .bool true, undef, undef, .tuple #[.agg U2, .bool true], .agg X, .agg Y, .agg U1, .tuple #[.agg U2, .bool true], .agg U2, .bool true, undef, undef, undef, undef, undef, undef, undef, undef, undef, undef, undef, undef, undef, undef, undef, undef], []⟩ ∧ W1.heap.size ≤ m ∧ Arr v m (lad f (lad g nine)) ∧ Below W1.heap.size W1 v) ?_ ?_
  · refine wp_region_held_drew (S := fun v => Below W1.heap.size W1 v) (by kernel_rfl) ((Below.refl _ _).drew) (fun hH0 => ?_)
    refine wpAnyH_take (i := 0) (oi := { dst := some 10, op := Op.load 22 (Operand.tmp 2), type := 22, pos := "ladder.go:50", after := #[], guard := none }) (v := .agg X) rfl (by kernel_rfl) (by kernel_rfl) (by kernel_rfl) (fun _ _ _ h => h) (y_load rfl (.tmp 2) rfl (w.heap.size) f X rfl hX (fun v hv => F0.out.below hv F0.out.size)) hH0 ?_
    try simp only [Act.put, List.setIfInBounds_toArray, List.set_cons_zero, List.set_cons_succ]
    refine wpAnyH_take (i := 1) (oi := { dst := some 11, op := Op.load 22 (Operand.tmp 3), type := 22, pos := "ladder.go:50", after := #[], guard := none }) (v := .agg Y) rfl (by kernel_rfl) (by kernel_rfl) (by kernel_rfl) (fun _ _ _ h => h) (y_load rfl (.tmp 3) rfl (w.heap.size + 1) g Y rfl hY (fun v hv => F1.out.below hv F1.out.size)) hH0 ?_
    try simp only [Act.put, List.setIfInBounds_toArray, List.set_cons_zero, List.set_cons_succ]
    refine wpAnyH_ready (rs := [2, 7]) (by kernel_rfl) (by simp) (AllReadyH.cons (o := { dst := some 12, op := Op.call { callee := Callee.value (Operand.func 20), args := #[Operand.tmp 11], argTypes := #[22] }, type := 22, pos := "ladder.go:50", after := #[{ on := 1, ground := Ground.data }], guard := none }) rfl (fun K hK => ?_) (AllReadyH.cons (o := { dst := some 5, op := Op.alloc 22, type := 0, pos := "ladder.go:50", after := #[], guard := none }) rfl (fun K hK => ?_) AllReadyH.nil))
    · go_simp
      go_at_call 20
      refine (implPub_any g H2.out.2 Y hY _ (P1.out.below hH0)).mono ?_
      rintro e w1 ⟨O1, rfl, hO1, hb1⟩
      go_wp2_with fail
      refine hK.out _ _ (hH0.trans (hb1.out.mono hH0.size)) (fun hH1 => ?_)
      clear hK K
      try simp only [Act.put, List.setIfInBounds_toArray, List.set_cons_zero, List.set_cons_succ]
      refine wpAnyH_ready (rs := [3, 7]) (by kernel_rfl) (by simp) (AllReadyH.cons (o := { dst := some 13, op := Op.call { callee := Callee.value (Operand.func 22), args := #[Operand.tmp 10, Operand.tmp 12], argTypes := #[22, 22] }, type := 32, pos := "ladder.go:50", after := #[{ on := 0, ground := Ground.data }, { on := 2, ground := Ground.data }, { on := 2, ground := Ground.chain }], guard := none }) rfl (fun K hK => ?_) (AllReadyH.cons (o := { dst := some 5, op := Op.alloc 22, type := 0, pos := "ladder.go:50", after := #[], guard := none }) rfl (fun K hK => ?_) AllReadyH.nil))
      · go_simp
        go_at_call 22
        refine (implShared_any f (lad g nine) H2.out.1 (lad_byt _ _) X O1 hX hO1 _ (P1.out.below hH1)).mono ?_
        rintro e w2 ⟨O2, rfl, hO2, hb2⟩
        go_wp2_with fail
        refine hK.out _ _ (hH1.trans (hb2.out.mono hH1.size)) (fun hH2 => ?_)
        clear hK K
        try simp only [Act.put, List.setIfInBounds_toArray, List.set_cons_zero, List.set_cons_succ]
        rw [show (!same (lad f (lad g nine)) zeros) = true from sure (lad_agree H2.out.1 H2.out.2)]
        refine wpAnyH_take (i := 4) (oi := { dst := some 9, op := Op.move (Operand.tmp 13), type := 32, pos := "ladder.go:50", after := #[{ on := 3, ground := Ground.data }], guard := none }) (v := .tuple #[.agg O2, .bool true]) rfl (by kernel_rfl) (by kernel_rfl) (by kernel_rfl) (fun _ _ _ h => h) (Or.inl ⟨rfl, fun v hv => rfl⟩) hH2 ?_
        try simp only [Act.put, List.setIfInBounds_toArray, List.set_cons_zero, List.set_cons_succ]
        refine wpAnyH_take (i := 5) (oi := { dst := some 14, op := Op.extract (Operand.tmp 9) 0, type := 22, pos := "ladder.go:50", after := #[{ on := 4, ground := Ground.data }], guard := none }) (v := .agg O2) rfl (by kernel_rfl) (by kernel_rfl) (by kernel_rfl) (fun _ _ _ h => h) (Or.inl ⟨rfl, fun v hv => rfl⟩) hH2 ?_
        try simp only [Act.put, List.setIfInBounds_toArray, List.set_cons_zero, List.set_cons_succ]
        refine wpAnyH_take (i := 6) (oi := { dst := some 15, op := Op.extract (Operand.tmp 9) 1, type := 4, pos := "ladder.go:50", after := #[{ on := 4, ground := Ground.data }, { on := 8, ground := Ground.gcOnly Departure.lateStores }], guard := none }) (v := .bool true) rfl (by kernel_rfl) (by kernel_rfl) (by kernel_rfl) (fun _ _ _ h => h) (Or.inl ⟨rfl, fun v hv => rfl⟩) hH2 ?_
        try simp only [Act.put, List.setIfInBounds_toArray, List.set_cons_zero, List.set_cons_succ]
        refine wpAnyH_ready (rs := [7]) (by kernel_rfl) (by simp) (AllReadyH.cons (o := { dst := some 5, op := Op.alloc 22, type := 0, pos := "ladder.go:50", after := #[], guard := none }) rfl (fun K hK => ?_) AllReadyH.nil)
        · go_simp
          go_wp2_with fail
          refine hK.out _ _ (hH2.alloc hH2.size _) (fun hH3 => ?_)
          clear hK K
          try simp only [Act.put, List.setIfInBounds_toArray, List.set_cons_zero, List.set_cons_succ]
          have F3 : Hid ((World.alloc w2 (.cells (List.replicate 32 (Value.int .u8 0)).toArray 22)).heap[w2.heap.size]? = some (.cells (List.replicate 32 (Value.int .u8 0)).toArray 22 (0, 0)) ∧ (List.replicate 32 (Value.int .u8 0)).toArray.size = 32) := hid ⟨heap_alloc_new w2 _, zeros_len⟩
          have hm3 : W1.heap.size ≤ w2.heap.size := hH2.size
          refine wpAnyH_ready (rs := [8]) (by kernel_rfl) (by simp) (AllReadyH.cons (o := { dst := none, op := Op.store 22 (Operand.tmp 5) (Operand.tmp 14), type := 0, pos := "ladder.go:50", after := #[{ on := 7, ground := Ground.data }, { on := 5, ground := Ground.data }, { on := 3, ground := Ground.chain }, { on := 0, ground := Ground.phase }, { on := 1, ground := Ground.phase }, { on := 2, ground := Ground.phase }, { on := 3, ground := Ground.phase }, { on := 4, ground := Ground.phase }, { on := 5, ground := Ground.phase }, { on := 6, ground := Ground.textOnly Departure.lateStores }, { on := 7, ground := Ground.phase }], guard := none }) rfl (fun K hK => ?_) AllReadyH.nil)
          · refine step_store_arr rfl (.tmp 5) (.tmp 14) rfl (w2.heap.size) (lad f (lad g nine)) O2 _ rfl rfl F3 hO2 W1.heap.size W1 ⟨hH3, hm3⟩ ?_
            intro w4 AR4 hB4
            refine hK.out _ _ hB4 (fun hH4 => ?_)
            clear hK K
            try simp only [Act.put]
            refine wpAnyH_take (i := 9) (oi := { dst := some 6, op := Op.assign (Operand.tmp 15), type := 4, pos := "ladder.go:50", after := #[{ on := 6, ground := Ground.data }, { on := 8, ground := Ground.chain }, { on := 0, ground := Ground.phase }, { on := 1, ground := Ground.phase }, { on := 2, ground := Ground.phase }, { on := 3, ground := Ground.phase }, { on := 4, ground := Ground.phase }, { on := 5, ground := Ground.phase }, { on := 6, ground := Ground.phase }, { on := 7, ground := Ground.phase }, { on := 8, ground := Ground.phase }], guard := none }) (v := .bool true) rfl (by kernel_rfl) (by kernel_rfl) (by kernel_rfl) (fun _ _ _ h => h) (Or.inl ⟨rfl, fun v hv => rfl⟩) hH4 ?_
            try simp only [Act.put, List.setIfInBounds_toArray, List.set_cons_zero, List.set_cons_succ]
            refine wpAnyH_done (by kernel_rfl) ?_ _
            exact ⟨w2.heap.size, O1, O2, rfl, hm3, AR4, hH4⟩
      · go_simp
        go_wp2_with fail
        refine hK.out _ _ (hH1.alloc hH1.size _) (fun hH5 => ?_)
        clear hK K
        try simp only [Act.put, List.setIfInBounds_toArray, List.set_cons_zero, List.set_cons_succ]
        have F5 : Hid ((World.alloc w1 (.cells (List.replicate 32 (Value.int .u8 0)).toArray 22)).heap[w1.heap.size]? = some (.cells (List.replicate 32 (Value.int .u8 0)).toArray 22 (0, 0)) ∧ (List.replicate 32 (Value.int .u8 0)).toArray.size = 32) := hid ⟨heap_alloc_new w1 _, zeros_len⟩
        have hm5 : W1.heap.size ≤ w1.heap.size := hH1.size
        refine wpAnyH_ready (rs := [3]) (by kernel_rfl) (by simp) (AllReadyH.cons (o := { dst := some 13, op := Op.call { callee := Callee.value (Operand.func 22), args := #[Operand.tmp 10, Operand.tmp 12], argTypes := #[22, 22] }, type := 32, pos := "ladder.go:50", after := #[{ on := 0, ground := Ground.data }, { on := 2, ground := Ground.data }, { on := 2, ground := Ground.chain }], guard := none }) rfl (fun K hK => ?_) AllReadyH.nil)
        · go_simp
          go_at_call 22
          refine (implShared_any f (lad g nine) H2.out.1 (lad_byt _ _) X O1 hX hO1 _ (P1.out.below hH5)).mono ?_
          rintro e w6 ⟨O6, rfl, hO6, hb6⟩
          go_wp2_with fail
          refine hK.out _ _ (hH5.trans (hb6.out.mono hH5.size)) (fun hH6 => ?_)
          clear hK K
          try simp only [Act.put, List.setIfInBounds_toArray, List.set_cons_zero, List.set_cons_succ]
          rw [show (!same (lad f (lad g nine)) zeros) = true from sure (lad_agree H2.out.1 H2.out.2)]
          have F6 := cells_after F5 hb6
          refine wpAnyH_take (i := 4) (oi := { dst := some 9, op := Op.move (Operand.tmp 13), type := 32, pos := "ladder.go:50", after := #[{ on := 3, ground := Ground.data }], guard := none }) (v := .tuple #[.agg O6, .bool true]) rfl (by kernel_rfl) (by kernel_rfl) (by kernel_rfl) (fun _ _ _ h => h) (Or.inl ⟨rfl, fun v hv => rfl⟩) hH6 ?_
          try simp only [Act.put, List.setIfInBounds_toArray, List.set_cons_zero, List.set_cons_succ]
          refine wpAnyH_take (i := 5) (oi := { dst := some 14, op := Op.extract (Operand.tmp 9) 0, type := 22, pos := "ladder.go:50", after := #[{ on := 4, ground := Ground.data }], guard := none }) (v := .agg O6) rfl (by kernel_rfl) (by kernel_rfl) (by kernel_rfl) (fun _ _ _ h => h) (Or.inl ⟨rfl, fun v hv => rfl⟩) hH6 ?_
          try simp only [Act.put, List.setIfInBounds_toArray, List.set_cons_zero, List.set_cons_succ]
          refine wpAnyH_take (i := 6) (oi := { dst := some 15, op := Op.extract (Operand.tmp 9) 1, type := 4, pos := "ladder.go:50", after := #[{ on := 4, ground := Ground.data }, { on := 8, ground := Ground.gcOnly Departure.lateStores }], guard := none }) (v := .bool true) rfl (by kernel_rfl) (by kernel_rfl) (by kernel_rfl) (fun _ _ _ h => h) (Or.inl ⟨rfl, fun v hv => rfl⟩) hH6 ?_
          try simp only [Act.put, List.setIfInBounds_toArray, List.set_cons_zero, List.set_cons_succ]
          refine wpAnyH_ready (rs := [8]) (by kernel_rfl) (by simp) (AllReadyH.cons (o := { dst := none, op := Op.store 22 (Operand.tmp 5) (Operand.tmp 14), type := 0, pos := "ladder.go:50", after := #[{ on := 7, ground := Ground.data }, { on := 5, ground := Ground.data }, { on := 3, ground := Ground.chain }, { on := 0, ground := Ground.phase }, { on := 1, ground := Ground.phase }, { on := 2, ground := Ground.phase }, { on := 3, ground := Ground.phase }, { on := 4, ground := Ground.phase }, { on := 5, ground := Ground.phase }, { on := 6, ground := Ground.textOnly Departure.lateStores }, { on := 7, ground := Ground.phase }], guard := none }) rfl (fun K hK => ?_) AllReadyH.nil)
          · refine step_store_arr rfl (.tmp 5) (.tmp 14) rfl (w1.heap.size) (lad f (lad g nine)) O6 _ rfl rfl F6 hO6 W1.heap.size W1 ⟨hH6, hm5⟩ ?_
            intro w7 AR7 hB7
            refine hK.out _ _ hB7 (fun hH7 => ?_)
            clear hK K
            try simp only [Act.put]
            refine wpAnyH_take (i := 9) (oi := { dst := some 6, op := Op.assign (Operand.tmp 15), type := 4, pos := "ladder.go:50", after := #[{ on := 6, ground := Ground.data }, { on := 8, ground := Ground.chain }, { on := 0, ground := Ground.phase }, { on := 1, ground := Ground.phase }, { on := 2, ground := Ground.phase }, { on := 3, ground := Ground.phase }, { on := 4, ground := Ground.phase }, { on := 5, ground := Ground.phase }, { on := 6, ground := Ground.phase }, { on := 7, ground := Ground.phase }, { on := 8, ground := Ground.phase }], guard := none }) (v := .bool true) rfl (by kernel_rfl) (by kernel_rfl) (by kernel_rfl) (fun _ _ _ h => h) (Or.inl ⟨rfl, fun v hv => rfl⟩) hH7 ?_
            try simp only [Act.put, List.setIfInBounds_toArray, List.set_cons_zero, List.set_cons_succ]
            refine wpAnyH_done (by kernel_rfl) ?_ _
            exact ⟨w1.heap.size, O1, O6, rfl, hm5, AR7, hH7⟩
    · go_simp
      go_wp2_with fail
      refine hK.out _ _ (hH0.alloc hH0.size _) (fun hH8 => ?_)
      clear hK K
      try simp only [Act.put, List.setIfInBounds_toArray, List.set_cons_zero, List.set_cons_succ]
      have F8 : Hid ((World.alloc W1.drew (.cells (List.replicate 32 (Value.int .u8 0)).toArray 22)).heap[W1.drew.heap.size]? = some (.cells (List.replicate 32 (Value.int .u8 0)).toArray 22 (0, 0)) ∧ (List.replicate 32 (Value.int .u8 0)).toArray.size = 32) := hid ⟨heap_alloc_new W1.drew _, zeros_len⟩
      have hm8 : W1.heap.size ≤ W1.drew.heap.size := hH0.size
      refine wpAnyH_ready (rs := [2]) (by kernel_rfl) (by simp) (AllReadyH.cons (o := { dst := some 12, op := Op.call { callee := Callee.value (Operand.func 20), args := #[Operand.tmp 11], argTypes := #[22] }, type := 22, pos := "ladder.go:50", after := #[{ on := 1, ground := Ground.data }], guard := none }) rfl (fun K hK => ?_) AllReadyH.nil)
      · go_simp
        go_at_call 20
        refine (implPub_any g H2.out.2 Y hY _ (P1.out.below hH8)).mono ?_
        rintro e w9 ⟨O9, rfl, hO9, hb9⟩
        go_wp2_with fail
        refine hK.out _ _ (hH8.trans (hb9.out.mono hH8.size)) (fun hH9 => ?_)
        clear hK K
        try simp only [Act.put, List.setIfInBounds_toArray, List.set_cons_zero, List.set_cons_succ]
        have F9 := cells_after F8 hb9
        refine wpAnyH_ready (rs := [3]) (by kernel_rfl) (by simp) (AllReadyH.cons (o := { dst := some 13, op := Op.call { callee := Callee.value (Operand.func 22), args := #[Operand.tmp 10, Operand.tmp 12], argTypes := #[22, 22] }, type := 32, pos := "ladder.go:50", after := #[{ on := 0, ground := Ground.data }, { on := 2, ground := Ground.data }, { on := 2, ground := Ground.chain }], guard := none }) rfl (fun K hK => ?_) AllReadyH.nil)
        · go_simp
          go_at_call 22
          refine (implShared_any f (lad g nine) H2.out.1 (lad_byt _ _) X O9 hX hO9 _ (P1.out.below hH9)).mono ?_
          rintro e w10 ⟨O10, rfl, hO10, hb10⟩
          go_wp2_with fail
          refine hK.out _ _ (hH9.trans (hb10.out.mono hH9.size)) (fun hH10 => ?_)
          clear hK K
          try simp only [Act.put, List.setIfInBounds_toArray, List.set_cons_zero, List.set_cons_succ]
          rw [show (!same (lad f (lad g nine)) zeros) = true from sure (lad_agree H2.out.1 H2.out.2)]
          have F10 := cells_after F9 hb10
          refine wpAnyH_take (i := 4) (oi := { dst := some 9, op := Op.move (Operand.tmp 13), type := 32, pos := "ladder.go:50", after := #[{ on := 3, ground := Ground.data }], guard := none }) (v := .tuple #[.agg O10, .bool true]) rfl (by kernel_rfl) (by kernel_rfl) (by kernel_rfl) (fun _ _ _ h => h) (Or.inl ⟨rfl, fun v hv => rfl⟩) hH10 ?_
          try simp only [Act.put, List.setIfInBounds_toArray, List.set_cons_zero, List.set_cons_succ]
          refine wpAnyH_take (i := 5) (oi := { dst := some 14, op := Op.extract (Operand.tmp 9) 0, type := 22, pos := "ladder.go:50", after := #[{ on := 4, ground := Ground.data }], guard := none }) (v := .agg O10) rfl (by kernel_rfl) (by kernel_rfl) (by kernel_rfl) (fun _ _ _ h => h) (Or.inl ⟨rfl, fun v hv => rfl⟩) hH10 ?_
          try simp only [Act.put, List.setIfInBounds_toArray, List.set_cons_zero, List.set_cons_succ]
          refine wpAnyH_take (i := 6) (oi := { dst := some 15, op := Op.extract (Operand.tmp 9) 1, type := 4, pos := "ladder.go:50", after := #[{ on := 4, ground := Ground.data }, { on := 8, ground := Ground.gcOnly Departure.lateStores }], guard := none }) (v := .bool true) rfl (by kernel_rfl) (by kernel_rfl) (by kernel_rfl) (fun _ _ _ h => h) (Or.inl ⟨rfl, fun v hv => rfl⟩) hH10 ?_
          try simp only [Act.put, List.setIfInBounds_toArray, List.set_cons_zero, List.set_cons_succ]
          refine wpAnyH_ready (rs := [8]) (by kernel_rfl) (by simp) (AllReadyH.cons (o := { dst := none, op := Op.store 22 (Operand.tmp 5) (Operand.tmp 14), type := 0, pos := "ladder.go:50", after := #[{ on := 7, ground := Ground.data }, { on := 5, ground := Ground.data }, { on := 3, ground := Ground.chain }, { on := 0, ground := Ground.phase }, { on := 1, ground := Ground.phase }, { on := 2, ground := Ground.phase }, { on := 3, ground := Ground.phase }, { on := 4, ground := Ground.phase }, { on := 5, ground := Ground.phase }, { on := 6, ground := Ground.textOnly Departure.lateStores }, { on := 7, ground := Ground.phase }], guard := none }) rfl (fun K hK => ?_) AllReadyH.nil)
          · refine step_store_arr rfl (.tmp 5) (.tmp 14) rfl (W1.drew.heap.size) (lad f (lad g nine)) O10 _ rfl rfl F10 hO10 W1.heap.size W1 ⟨hH10, hm8⟩ ?_
            intro w11 AR11 hB11
            refine hK.out _ _ hB11 (fun hH11 => ?_)
            clear hK K
            try simp only [Act.put]
            refine wpAnyH_take (i := 9) (oi := { dst := some 6, op := Op.assign (Operand.tmp 15), type := 4, pos := "ladder.go:50", after := #[{ on := 6, ground := Ground.data }, { on := 8, ground := Ground.chain }, { on := 0, ground := Ground.phase }, { on := 1, ground := Ground.phase }, { on := 2, ground := Ground.phase }, { on := 3, ground := Ground.phase }, { on := 4, ground := Ground.phase }, { on := 5, ground := Ground.phase }, { on := 6, ground := Ground.phase }, { on := 7, ground := Ground.phase }, { on := 8, ground := Ground.phase }], guard := none }) (v := .bool true) rfl (by kernel_rfl) (by kernel_rfl) (by kernel_rfl) (fun _ _ _ h => h) (Or.inl ⟨rfl, fun v hv => rfl⟩) hH11 ?_
            try simp only [Act.put, List.setIfInBounds_toArray, List.set_cons_zero, List.set_cons_succ]
            refine wpAnyH_done (by kernel_rfl) ?_ _
            exact ⟨W1.drew.heap.size, O9, O10, rfl, hm8, AR11, hH11⟩
  rintro _ W2 ⟨m, U1, U2, rfl, hm, hAm, hB2⟩
  have M1 : Hid (Arr W2 m (lad f (lad g nine))) := hid hAm
  replace F0 : Hid (Arr W2 w.heap.size f) := hid (F0.out.below hB2 F0.out.size)
  replace F1 : Hid (Arr W2 (w.heap.size + 1) g) := hid (F1.out.below hB2 F1.out.size)
  replace F3 : Hid (Below w.heap.size w W2) := hid (F3.out.trans (hB2.mono F3.out.size))
  replace P1 : Hid (One5 W2) := hid (P1.out.below hB2)
  clear hm hAm hB2 W1
  go_wp2_with fail
  refine region_cut (fun a v => ∃ (m2 : Nat) (U3 U4 : Array Value), a = ⟨#[.agg X, .agg Y, .pointer (some ⟨w.heap.size, 0, none⟩), .pointer (some ⟨w.heap.size + 1, 0, none⟩), .bool false, .pointer (some ⟨m, 0, none⟩), .bool true, .pointer (some ⟨m2, 0, none⟩), .bool true, .tuple #[.agg U2, .bool true], .agg X, .agg Y, .agg U1, .tuple #[.agg U2, .bool true], .agg U2, .bool true, .tuple #[.agg U4, .bool true], .agg Y, .agg X, .agg U3, .tuple #[.agg U4, .bool true], .agg U4, .bool true, undef, undef, undef, undef, undef, undef, undef, undef, undef], []⟩ ∧ W2.heap.size ≤ m2 ∧ Arr v m2 (lad g (lad f nine)) ∧ Below W2.heap.size W2 v) ?_ ?_
  · refine wp_region_held_drew (S := fun v => Below W2.heap.size W2 v) (by kernel_rfl) ((Below.refl _ _).drew) (fun hH0 => ?_)
    refine wpAnyH_take (i := 0) (oi := { dst := some 17, op := Op.load 22 (Operand.tmp 3), type := 22, pos := "ladder.go:51", after := #[], guard := none }) (v := .agg Y) rfl (by kernel_rfl) (by kernel_rfl) (by kernel_rfl) (fun _ _ _ h => h) (y_load rfl (.tmp 3) rfl (w.heap.size + 1) g Y rfl hY (fun v hv => F1.out.below hv F1.out.size)) hH0 ?_
    try simp only [Act.put, List.setIfInBounds_toArray, List.set_cons_zero, List.set_cons_succ]
    refine wpAnyH_take (i := 1) (oi := { dst := some 18, op := Op.load 22 (Operand.tmp 2), type := 22, pos := "ladder.go:51", after := #[], guard := none }) (v := .agg X) rfl (by kernel_rfl) (by kernel_rfl) (by kernel_rfl) (fun _ _ _ h => h) (y_load rfl (.tmp 2) rfl (w.heap.size) f X rfl hX (fun v hv => F0.out.below hv F0.out.size)) hH0 ?_
    try simp only [Act.put, List.setIfInBounds_toArray, List.set_cons_zero, List.set_cons_succ]
    refine wpAnyH_ready (rs := [2, 7]) (by kernel_rfl) (by simp) (AllReadyH.cons (o := { dst := some 19, op := Op.call { callee := Callee.value (Operand.func 20), args := #[Operand.tmp 18], argTypes := #[22] }, type := 22, pos := "ladder.go:51", after := #[{ on := 1, ground := Ground.data }], guard := none }) rfl (fun K hK => ?_) (AllReadyH.cons (o := { dst := some 7, op := Op.alloc 22, type := 0, pos := "ladder.go:51", after := #[], guard := none }) rfl (fun K hK => ?_) AllReadyH.nil))
    · go_simp
      go_at_call 20
      refine (implPub_any f H2.out.1 X hX _ (P1.out.below hH0)).mono ?_
      rintro e w1 ⟨O1, rfl, hO1, hb1⟩
      go_wp2_with fail
      refine hK.out _ _ (hH0.trans (hb1.out.mono hH0.size)) (fun hH1 => ?_)
      clear hK K
      try simp only [Act.put, List.setIfInBounds_toArray, List.set_cons_zero, List.set_cons_succ]
      refine wpAnyH_ready (rs := [3, 7]) (by kernel_rfl) (by simp) (AllReadyH.cons (o := { dst := some 20, op := Op.call { callee := Callee.value (Operand.func 22), args := #[Operand.tmp 17, Operand.tmp 19], argTypes := #[22, 22] }, type := 32, pos := "ladder.go:51", after := #[{ on := 0, ground := Ground.data }, { on := 2, ground := Ground.data }, { on := 2, ground := Ground.chain }], guard := none }) rfl (fun K hK => ?_) (AllReadyH.cons (o := { dst := some 7, op := Op.alloc 22, type := 0, pos := "ladder.go:51", after := #[], guard := none }) rfl (fun K hK => ?_) AllReadyH.nil))
      · go_simp
        go_at_call 22
        refine (implShared_any g (lad f nine) H2.out.2 (lad_byt _ _) Y O1 hY hO1 _ (P1.out.below hH1)).mono ?_
        rintro e w2 ⟨O2, rfl, hO2, hb2⟩
        go_wp2_with fail
        refine hK.out _ _ (hH1.trans (hb2.out.mono hH1.size)) (fun hH2 => ?_)
        clear hK K
        try simp only [Act.put, List.setIfInBounds_toArray, List.set_cons_zero, List.set_cons_succ]
        rw [show (!same (lad g (lad f nine)) zeros) = true from sure (lad_agree H2.out.2 H2.out.1)]
        refine wpAnyH_take (i := 4) (oi := { dst := some 16, op := Op.move (Operand.tmp 20), type := 32, pos := "ladder.go:51", after := #[{ on := 3, ground := Ground.data }], guard := none }) (v := .tuple #[.agg O2, .bool true]) rfl (by kernel_rfl) (by kernel_rfl) (by kernel_rfl) (fun _ _ _ h => h) (Or.inl ⟨rfl, fun v hv => rfl⟩) hH2 ?_
        try simp only [Act.put, List.setIfInBounds_toArray, List.set_cons_zero, List.set_cons_succ]
        refine wpAnyH_take (i := 5) (oi := { dst := some 21, op := Op.extract (Operand.tmp 16) 0, type := 22, pos := "ladder.go:51", after := #[{ on := 4, ground := Ground.data }], guard := none }) (v := .agg O2) rfl (by kernel_rfl) (by kernel_rfl) (by kernel_rfl) (fun _ _ _ h => h) (Or.inl ⟨rfl, fun v hv => rfl⟩) hH2 ?_
        try simp only [Act.put, List.setIfInBounds_toArray, List.set_cons_zero, List.set_cons_succ]
        refine wpAnyH_take (i := 6) (oi := { dst := some 22, op := Op.extract (Operand.tmp 16) 1, type := 4, pos := "ladder.go:51", after := #[{ on := 4, ground := Ground.data }, { on := 8, ground := Ground.gcOnly Departure.lateStores }], guard := none }) (v := .bool true) rfl (by kernel_rfl) (by kernel_rfl) (by kernel_rfl) (fun _ _ _ h => h) (Or.inl ⟨rfl, fun v hv => rfl⟩) hH2 ?_
        try simp only [Act.put, List.setIfInBounds_toArray, List.set_cons_zero, List.set_cons_succ]
        refine wpAnyH_ready (rs := [7]) (by kernel_rfl) (by simp) (AllReadyH.cons (o := { dst := some 7, op := Op.alloc 22, type := 0, pos := "ladder.go:51", after := #[], guard := none }) rfl (fun K hK => ?_) AllReadyH.nil)
        · go_simp
          go_wp2_with fail
          refine hK.out _ _ (hH2.alloc hH2.size _) (fun hH3 => ?_)
          clear hK K
          try simp only [Act.put, List.setIfInBounds_toArray, List.set_cons_zero, List.set_cons_succ]
          have F3 : Hid ((World.alloc w2 (.cells (List.replicate 32 (Value.int .u8 0)).toArray 22)).heap[w2.heap.size]? = some (.cells (List.replicate 32 (Value.int .u8 0)).toArray 22 (0, 0)) ∧ (List.replicate 32 (Value.int .u8 0)).toArray.size = 32) := hid ⟨heap_alloc_new w2 _, zeros_len⟩
          have hm3 : W2.heap.size ≤ w2.heap.size := hH2.size
          refine wpAnyH_ready (rs := [8]) (by kernel_rfl) (by simp) (AllReadyH.cons (o := { dst := none, op := Op.store 22 (Operand.tmp 7) (Operand.tmp 21), type := 0, pos := "ladder.go:51", after := #[{ on := 7, ground := Ground.data }, { on := 5, ground := Ground.data }, { on := 3, ground := Ground.chain }, { on := 0, ground := Ground.phase }, { on := 1, ground := Ground.phase }, { on := 2, ground := Ground.phase }, { on := 3, ground := Ground.phase }, { on := 4, ground := Ground.phase }, { on := 5, ground := Ground.phase }, { on := 6, ground := Ground.textOnly Departure.lateStores }, { on := 7, ground := Ground.phase }], guard := none }) rfl (fun K hK => ?_) AllReadyH.nil)
          · refine step_store_arr rfl (.tmp 7) (.tmp 21) rfl (w2.heap.size) (lad g (lad f nine)) O2 _ rfl rfl F3 hO2 W2.heap.size W2 ⟨hH3, hm3⟩ ?_
            intro w4 AR4 hB4
            refine hK.out _ _ hB4 (fun hH4 => ?_)
            clear hK K
            try simp only [Act.put]
            refine wpAnyH_take (i := 9) (oi := { dst := some 8, op := Op.assign (Operand.tmp 22), type := 4, pos := "ladder.go:51", after := #[{ on := 6, ground := Ground.data }, { on := 8, ground := Ground.chain }, { on := 0, ground := Ground.phase }, { on := 1, ground := Ground.phase }, { on := 2, ground := Ground.phase }, { on := 3, ground := Ground.phase }, { on := 4, ground := Ground.phase }, { on := 5, ground := Ground.phase }, { on := 6, ground := Ground.phase }, { on := 7, ground := Ground.phase }, { on := 8, ground := Ground.phase }], guard := none }) (v := .bool true) rfl (by kernel_rfl) (by kernel_rfl) (by kernel_rfl) (fun _ _ _ h => h) (Or.inl ⟨rfl, fun v hv => rfl⟩) hH4 ?_
            try simp only [Act.put, List.setIfInBounds_toArray, List.set_cons_zero, List.set_cons_succ]
            refine wpAnyH_done (by kernel_rfl) ?_ _
            exact ⟨w2.heap.size, O1, O2, rfl, hm3, AR4, hH4⟩
      · go_simp
        go_wp2_with fail
        refine hK.out _ _ (hH1.alloc hH1.size _) (fun hH5 => ?_)
        clear hK K
        try simp only [Act.put, List.setIfInBounds_toArray, List.set_cons_zero, List.set_cons_succ]
        have F5 : Hid ((World.alloc w1 (.cells (List.replicate 32 (Value.int .u8 0)).toArray 22)).heap[w1.heap.size]? = some (.cells (List.replicate 32 (Value.int .u8 0)).toArray 22 (0, 0)) ∧ (List.replicate 32 (Value.int .u8 0)).toArray.size = 32) := hid ⟨heap_alloc_new w1 _, zeros_len⟩
        have hm5 : W2.heap.size ≤ w1.heap.size := hH1.size
        refine wpAnyH_ready (rs := [3]) (by kernel_rfl) (by simp) (AllReadyH.cons (o := { dst := some 20, op := Op.call { callee := Callee.value (Operand.func 22), args := #[Operand.tmp 17, Operand.tmp 19], argTypes := #[22, 22] }, type := 32, pos := "ladder.go:51", after := #[{ on := 0, ground := Ground.data }, { on := 2, ground := Ground.data }, { on := 2, ground := Ground.chain }], guard := none }) rfl (fun K hK => ?_) AllReadyH.nil)
        · go_simp
          go_at_call 22
          refine (implShared_any g (lad f nine) H2.out.2 (lad_byt _ _) Y O1 hY hO1 _ (P1.out.below hH5)).mono ?_
          rintro e w6 ⟨O6, rfl, hO6, hb6⟩
          go_wp2_with fail
          refine hK.out _ _ (hH5.trans (hb6.out.mono hH5.size)) (fun hH6 => ?_)
          clear hK K
          try simp only [Act.put, List.setIfInBounds_toArray, List.set_cons_zero, List.set_cons_succ]
          rw [show (!same (lad g (lad f nine)) zeros) = true from sure (lad_agree H2.out.2 H2.out.1)]
          have F6 := cells_after F5 hb6
          refine wpAnyH_take (i := 4) (oi := { dst := some 16, op := Op.move (Operand.tmp 20), type := 32, pos := "ladder.go:51", after := #[{ on := 3, ground := Ground.data }], guard := none }) (v := .tuple #[.agg O6, .bool true]) rfl (by kernel_rfl) (by kernel_rfl) (by kernel_rfl) (fun _ _ _ h => h) (Or.inl ⟨rfl, fun v hv => rfl⟩) hH6 ?_
          try simp only [Act.put, List.setIfInBounds_toArray, List.set_cons_zero, List.set_cons_succ]
          refine wpAnyH_take (i := 5) (oi := { dst := some 21, op := Op.extract (Operand.tmp 16) 0, type := 22, pos := "ladder.go:51", after := #[{ on := 4, ground := Ground.data }], guard := none }) (v := .agg O6) rfl (by kernel_rfl) (by kernel_rfl) (by kernel_rfl) (fun _ _ _ h => h) (Or.inl ⟨rfl, fun v hv => rfl⟩) hH6 ?_
          try simp only [Act.put, List.setIfInBounds_toArray, List.set_cons_zero, List.set_cons_succ]
          refine wpAnyH_take (i := 6) (oi := { dst := some 22, op := Op.extract (Operand.tmp 16) 1, type := 4, pos := "ladder.go:51", after := #[{ on := 4, ground := Ground.data }, { on := 8, ground := Ground.gcOnly Departure.lateStores }], guard := none }) (v := .bool true) rfl (by kernel_rfl) (by kernel_rfl) (by kernel_rfl) (fun _ _ _ h => h) (Or.inl ⟨rfl, fun v hv => rfl⟩) hH6 ?_
          try simp only [Act.put, List.setIfInBounds_toArray, List.set_cons_zero, List.set_cons_succ]
          refine wpAnyH_ready (rs := [8]) (by kernel_rfl) (by simp) (AllReadyH.cons (o := { dst := none, op := Op.store 22 (Operand.tmp 7) (Operand.tmp 21), type := 0, pos := "ladder.go:51", after := #[{ on := 7, ground := Ground.data }, { on := 5, ground := Ground.data }, { on := 3, ground := Ground.chain }, { on := 0, ground := Ground.phase }, { on := 1, ground := Ground.phase }, { on := 2, ground := Ground.phase }, { on := 3, ground := Ground.phase }, { on := 4, ground := Ground.phase }, { on := 5, ground := Ground.phase }, { on := 6, ground := Ground.textOnly Departure.lateStores }, { on := 7, ground := Ground.phase }], guard := none }) rfl (fun K hK => ?_) AllReadyH.nil)
          · refine step_store_arr rfl (.tmp 7) (.tmp 21) rfl (w1.heap.size) (lad g (lad f nine)) O6 _ rfl rfl F6 hO6 W2.heap.size W2 ⟨hH6, hm5⟩ ?_
            intro w7 AR7 hB7
            refine hK.out _ _ hB7 (fun hH7 => ?_)
            clear hK K
            try simp only [Act.put]
            refine wpAnyH_take (i := 9) (oi := { dst := some 8, op := Op.assign (Operand.tmp 22), type := 4, pos := "ladder.go:51", after := #[{ on := 6, ground := Ground.data }, { on := 8, ground := Ground.chain }, { on := 0, ground := Ground.phase }, { on := 1, ground := Ground.phase }, { on := 2, ground := Ground.phase }, { on := 3, ground := Ground.phase }, { on := 4, ground := Ground.phase }, { on := 5, ground := Ground.phase }, { on := 6, ground := Ground.phase }, { on := 7, ground := Ground.phase }, { on := 8, ground := Ground.phase }], guard := none }) (v := .bool true) rfl (by kernel_rfl) (by kernel_rfl) (by kernel_rfl) (fun _ _ _ h => h) (Or.inl ⟨rfl, fun v hv => rfl⟩) hH7 ?_
            try simp only [Act.put, List.setIfInBounds_toArray, List.set_cons_zero, List.set_cons_succ]
            refine wpAnyH_done (by kernel_rfl) ?_ _
            exact ⟨w1.heap.size, O1, O6, rfl, hm5, AR7, hH7⟩
    · go_simp
      go_wp2_with fail
      refine hK.out _ _ (hH0.alloc hH0.size _) (fun hH8 => ?_)
      clear hK K
      try simp only [Act.put, List.setIfInBounds_toArray, List.set_cons_zero, List.set_cons_succ]
      have F8 : Hid ((World.alloc W2.drew (.cells (List.replicate 32 (Value.int .u8 0)).toArray 22)).heap[W2.drew.heap.size]? = some (.cells (List.replicate 32 (Value.int .u8 0)).toArray 22 (0, 0)) ∧ (List.replicate 32 (Value.int .u8 0)).toArray.size = 32) := hid ⟨heap_alloc_new W2.drew _, zeros_len⟩
      have hm8 : W2.heap.size ≤ W2.drew.heap.size := hH0.size
      refine wpAnyH_ready (rs := [2]) (by kernel_rfl) (by simp) (AllReadyH.cons (o := { dst := some 19, op := Op.call { callee := Callee.value (Operand.func 20), args := #[Operand.tmp 18], argTypes := #[22] }, type := 22, pos := "ladder.go:51", after := #[{ on := 1, ground := Ground.data }], guard := none }) rfl (fun K hK => ?_) AllReadyH.nil)
      · go_simp
        go_at_call 20
        refine (implPub_any f H2.out.1 X hX _ (P1.out.below hH8)).mono ?_
        rintro e w9 ⟨O9, rfl, hO9, hb9⟩
        go_wp2_with fail
        refine hK.out _ _ (hH8.trans (hb9.out.mono hH8.size)) (fun hH9 => ?_)
        clear hK K
        try simp only [Act.put, List.setIfInBounds_toArray, List.set_cons_zero, List.set_cons_succ]
        have F9 := cells_after F8 hb9
        refine wpAnyH_ready (rs := [3]) (by kernel_rfl) (by simp) (AllReadyH.cons (o := { dst := some 20, op := Op.call { callee := Callee.value (Operand.func 22), args := #[Operand.tmp 17, Operand.tmp 19], argTypes := #[22, 22] }, type := 32, pos := "ladder.go:51", after := #[{ on := 0, ground := Ground.data }, { on := 2, ground := Ground.data }, { on := 2, ground := Ground.chain }], guard := none }) rfl (fun K hK => ?_) AllReadyH.nil)
        · go_simp
          go_at_call 22
          refine (implShared_any g (lad f nine) H2.out.2 (lad_byt _ _) Y O9 hY hO9 _ (P1.out.below hH9)).mono ?_
          rintro e w10 ⟨O10, rfl, hO10, hb10⟩
          go_wp2_with fail
          refine hK.out _ _ (hH9.trans (hb10.out.mono hH9.size)) (fun hH10 => ?_)
          clear hK K
          try simp only [Act.put, List.setIfInBounds_toArray, List.set_cons_zero, List.set_cons_succ]
          rw [show (!same (lad g (lad f nine)) zeros) = true from sure (lad_agree H2.out.2 H2.out.1)]
          have F10 := cells_after F9 hb10
          refine wpAnyH_take (i := 4) (oi := { dst := some 16, op := Op.move (Operand.tmp 20), type := 32, pos := "ladder.go:51", after := #[{ on := 3, ground := Ground.data }], guard := none }) (v := .tuple #[.agg O10, .bool true]) rfl (by kernel_rfl) (by kernel_rfl) (by kernel_rfl) (fun _ _ _ h => h) (Or.inl ⟨rfl, fun v hv => rfl⟩) hH10 ?_
          try simp only [Act.put, List.setIfInBounds_toArray, List.set_cons_zero, List.set_cons_succ]
          refine wpAnyH_take (i := 5) (oi := { dst := some 21, op := Op.extract (Operand.tmp 16) 0, type := 22, pos := "ladder.go:51", after := #[{ on := 4, ground := Ground.data }], guard := none }) (v := .agg O10) rfl (by kernel_rfl) (by kernel_rfl) (by kernel_rfl) (fun _ _ _ h => h) (Or.inl ⟨rfl, fun v hv => rfl⟩) hH10 ?_
          try simp only [Act.put, List.setIfInBounds_toArray, List.set_cons_zero, List.set_cons_succ]
          refine wpAnyH_take (i := 6) (oi := { dst := some 22, op := Op.extract (Operand.tmp 16) 1, type := 4, pos := "ladder.go:51", after := #[{ on := 4, ground := Ground.data }, { on := 8, ground := Ground.gcOnly Departure.lateStores }], guard := none }) (v := .bool true) rfl (by kernel_rfl) (by kernel_rfl) (by kernel_rfl) (fun _ _ _ h => h) (Or.inl ⟨rfl, fun v hv => rfl⟩) hH10 ?_
          try simp only [Act.put, List.setIfInBounds_toArray, List.set_cons_zero, List.set_cons_succ]
          refine wpAnyH_ready (rs := [8]) (by kernel_rfl) (by simp) (AllReadyH.cons (o := { dst := none, op := Op.store 22 (Operand.tmp 7) (Operand.tmp 21), type := 0, pos := "ladder.go:51", after := #[{ on := 7, ground := Ground.data }, { on := 5, ground := Ground.data }, { on := 3, ground := Ground.chain }, { on := 0, ground := Ground.phase }, { on := 1, ground := Ground.phase }, { on := 2, ground := Ground.phase }, { on := 3, ground := Ground.phase }, { on := 4, ground := Ground.phase }, { on := 5, ground := Ground.phase }, { on := 6, ground := Ground.textOnly Departure.lateStores }, { on := 7, ground := Ground.phase }], guard := none }) rfl (fun K hK => ?_) AllReadyH.nil)
          · refine step_store_arr rfl (.tmp 7) (.tmp 21) rfl (W2.drew.heap.size) (lad g (lad f nine)) O10 _ rfl rfl F10 hO10 W2.heap.size W2 ⟨hH10, hm8⟩ ?_
            intro w11 AR11 hB11
            refine hK.out _ _ hB11 (fun hH11 => ?_)
            clear hK K
            try simp only [Act.put]
            refine wpAnyH_take (i := 9) (oi := { dst := some 8, op := Op.assign (Operand.tmp 22), type := 4, pos := "ladder.go:51", after := #[{ on := 6, ground := Ground.data }, { on := 8, ground := Ground.chain }, { on := 0, ground := Ground.phase }, { on := 1, ground := Ground.phase }, { on := 2, ground := Ground.phase }, { on := 3, ground := Ground.phase }, { on := 4, ground := Ground.phase }, { on := 5, ground := Ground.phase }, { on := 6, ground := Ground.phase }, { on := 7, ground := Ground.phase }, { on := 8, ground := Ground.phase }], guard := none }) (v := .bool true) rfl (by kernel_rfl) (by kernel_rfl) (by kernel_rfl) (fun _ _ _ h => h) (Or.inl ⟨rfl, fun v hv => rfl⟩) hH11 ?_
            try simp only [Act.put, List.setIfInBounds_toArray, List.set_cons_zero, List.set_cons_succ]
            refine wpAnyH_done (by kernel_rfl) ?_ _
            exact ⟨W2.drew.heap.size, O9, O10, rfl, hm8, AR11, hH11⟩
  rintro _ W3 ⟨m2, U3, U4, rfl, hm, hAm, hB2⟩
  have M2 : Hid (Arr W3 m2 (lad g (lad f nine))) := hid hAm
  replace M1 : Hid (Arr W3 m (lad f (lad g nine))) := hid (M1.out.below hB2 M1.out.size)
  replace F3 : Hid (Below w.heap.size w W3) := hid (F3.out.trans (hB2.mono F3.out.size))
  clear hm hAm hB2 F0 F1 P1 W2
  obtain ⟨A1, hA1⟩ : ∃ A1, A1 = (bvals (lad f (lad g nine))).toArray := ⟨_, rfl⟩
  have HA1 : Hid (A1 = (bvals (lad f (lad g nine))).toArray) := hid hA1
  clear hA1
  obtain ⟨A2, hA2⟩ : ∃ A2, A2 = (bvals (lad g (lad f nine))).toArray := ⟨_, rfl⟩
  have HA2 : Hid (A2 = (bvals (lad g (lad f nine))).toArray) := hid hA2
  clear hA2
  have EQ : Hid (true = same (lad f (lad g nine)) (lad g (lad f nine))) := hid (same_eq (congrArg bvals (lad_turns f g nine)))
  go_wp2_with (first | (refine wpList_y (S := fun v => Arr v m (lad f (lad g nine))) (y_load rfl (.tmp 5) rfl m (lad f (lad g nine)) A1 rfl HA1 (fun _ h => h)) M1.out ?_) | (refine wpList_y (S := fun v => Arr v m2 (lad g (lad f nine))) (y_load rfl (.tmp 7) rfl m2 (lad g (lad f nine)) A2 rfl HA2 (fun _ h => h)) M2.out ?_) | (refine wpList_y (S := fun _ => True) (y_eql rfl (.tmp 28) (.tmp 29) _ rfl (lad f (lad g nine)) (lad g (lad f nine)) A1 A2 rfl rfl HA1 HA2 true EQ.out) trivial ?_))
  go_ret
  exact ⟨rfl, F3.out⟩
end Go.Proofs.YtflmkgecgijncaaDoor
