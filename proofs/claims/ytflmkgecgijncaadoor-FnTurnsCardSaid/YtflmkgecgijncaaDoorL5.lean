/-
  laws.FnTurns. Printed by gen_turns.py.
-/
import Derived.Test.YtflmkgecgijncaaDoorF26
namespace Go.Proofs.YtflmkgecgijncaaDoor
open Go.RowKit Go.Shelf

/-- Three arrays are laid into new blocks. -/
theorem three_new (f g k : Nat → Int) (X Y V : Array Value) (hX : Hid (X = (bvals f).toArray)) (hY : Hid (Y = (bvals g).toArray)) (hV : Hid (V = (bvals k).toArray)) (w : World) :
    Hid (Arr (((w.alloc (.cells X 22)).alloc (.cells Y 22)).alloc (.cells V 22)) w.heap.size f) ∧ Hid (Arr (((w.alloc (.cells X 22)).alloc (.cells Y 22)).alloc (.cells V 22)) (w.heap.size + 1) g) ∧
      Hid (Arr (((w.alloc (.cells X 22)).alloc (.cells Y 22)).alloc (.cells V 22)) (w.heap.size + 1 + 1) k) ∧ Hid (Below w.heap.size w (((w.alloc (.cells X 22)).alloc (.cells Y 22)).alloc (.cells V 22))) := by
  obtain ⟨h0, h1, h2, h3, _⟩ := three_arr f g X Y hX hY w (bvals k) (bvals_len k)
  have e : V = (bvals k).toArray := hV.out
  subst e
  exact ⟨h0, h1, hid h2.out.1, h3⟩

set_option maxRecDepth 100000 in
set_option maxHeartbeats 2000000 in
theorem fnTurns_any (f g k : Nat → Int) (hf : Byt f) (hg : Byt g) (hk : Byt k) (X Y V : Array Value) (hX : Hid (X = (bvals f).toArray)) (hY : Hid (Y = (bvals g).toArray)) (hV : Hid (V = (bvals k).toArray)) (w : World) (h1 : One5 w) :
    Calls Tryd.prog 5 #[.agg X, .agg Y, .agg V] w fun e w' => e = .returned (.bool true) ∧ Below w.heap.size w w' := by
  have H2 : Hid (Byt f ∧ Byt g ∧ Byt k) := hid ⟨hf, hg, hk⟩
  have H1 : Hid (One5 w) := hid h1
  clear h1 hf hg hk
  obtain ⟨N, hN⟩ : ∃ N, N = (bvals zeros).toArray := ⟨_, rfl⟩
  have HN : Hid (N = (bvals zeros).toArray) := hid hN
  clear hN
  obtain ⟨F0, F1, F2, F3⟩ := three_new f g k X Y V hX hY hV w
  go_enter Tryd.func5, Tryd.ntmps5
  go_wp2_with fail
  have P1 : Hid (One5 _) := hid (H1.out.below F3.out)
  generalize hW1 : World.alloc (World.alloc (World.alloc w _) _) _ = W1 at F0 F1 F2 F3 P1 ⊢
  clear hW1
  refine region_cut (fun a v => ∃ (m : Nat) (U1 U2 : Array Value), a = ⟨#[.agg X, .agg Y, .agg V, .pointer (some ⟨w.heap.size, 0, none⟩), .pointer (some ⟨w.heap.size + 1, 0, none⟩), .pointer (some ⟨w.heap.size + 1 + 1, 0, none⟩), .bool false, .pointer (some ⟨m, 0, none⟩), undef, .agg X, .agg Y, .agg V, .agg U1, .agg U2, undef, undef, undef, undef, undef, undef, undef, undef, undef, undef, undef, undef, undef, undef, undef], []⟩ ∧ W1.heap.size ≤ m ∧ Arr v m (lad f (lad g k)) ∧ Below W1.heap.size W1 v) ?_ ?_
  · refine wp_region_held_drew (S := fun v => Below W1.heap.size W1 v) (by kernel_rfl) ((Below.refl _ _).drew) (fun hH0 => ?_)
    refine wpAnyH_take (i := 0) (oi := { dst := some 9, op := Op.load 22 (Operand.tmp 3), type := 22, pos := "ladder.go:57", after := #[], guard := none }) (v := .agg X) rfl (by kernel_rfl) (by kernel_rfl) (by kernel_rfl) (fun _ _ _ h => h) (y_load rfl (.tmp 3) rfl (w.heap.size) f X rfl hX (fun v hv => F0.out.below hv F0.out.size)) hH0 ?_
    try simp only [Act.put, List.setIfInBounds_toArray, List.set_cons_zero, List.set_cons_succ]
    refine wpAnyH_take (i := 1) (oi := { dst := some 10, op := Op.load 22 (Operand.tmp 4), type := 22, pos := "ladder.go:57", after := #[], guard := none }) (v := .agg Y) rfl (by kernel_rfl) (by kernel_rfl) (by kernel_rfl) (fun _ _ _ h => h) (y_load rfl (.tmp 4) rfl (w.heap.size + 1) g Y rfl hY (fun v hv => F1.out.below hv F1.out.size)) hH0 ?_
    try simp only [Act.put, List.setIfInBounds_toArray, List.set_cons_zero, List.set_cons_succ]
    refine wpAnyH_take (i := 2) (oi := { dst := some 11, op := Op.load 22 (Operand.tmp 5), type := 22, pos := "ladder.go:57", after := #[], guard := none }) (v := .agg V) rfl (by kernel_rfl) (by kernel_rfl) (by kernel_rfl) (fun _ _ _ h => h) (y_load rfl (.tmp 5) rfl (w.heap.size + 1 + 1) k V rfl hV (fun v hv => F2.out.below hv F2.out.size)) hH0 ?_
    try simp only [Act.put, List.setIfInBounds_toArray, List.set_cons_zero, List.set_cons_succ]
    refine wpAnyH_ready (rs := [3, 5]) (by kernel_rfl) (by simp) (AllReadyH.cons (o := { dst := some 12, op := Op.call { callee := Callee.value (Operand.func 16), args := #[Operand.tmp 10, Operand.tmp 11], argTypes := #[22, 22] }, type := 22, pos := "ladder.go:57", after := #[{ on := 1, ground := Ground.data }, { on := 2, ground := Ground.data }], guard := none }) rfl (fun K hK => ?_) (AllReadyH.cons (o := { dst := some 7, op := Op.alloc 22, type := 0, pos := "ladder.go:57", after := #[], guard := none }) rfl (fun K hK => ?_) AllReadyH.nil))
    · go_simp
      go_at_call 16
      refine (implMult_any g k H2.out.2.1 H2.out.2.2 Y V hY hV _ (P1.out.below hH0)).mono ?_
      rintro e w1 ⟨O1, rfl, hO1, hb1⟩
      go_wp2_with fail
      refine hK.out _ _ (hH0.trans (hb1.out.mono hH0.size)) (fun hH1 => ?_)
      clear hK K
      try simp only [Act.put, List.setIfInBounds_toArray, List.set_cons_zero, List.set_cons_succ]
      refine wpAnyH_ready (rs := [4, 5]) (by kernel_rfl) (by simp) (AllReadyH.cons (o := { dst := some 13, op := Op.call { callee := Callee.value (Operand.func 16), args := #[Operand.tmp 9, Operand.tmp 12], argTypes := #[22, 22] }, type := 22, pos := "ladder.go:57", after := #[{ on := 0, ground := Ground.data }, { on := 3, ground := Ground.data }, { on := 3, ground := Ground.chain }], guard := none }) rfl (fun K hK => ?_) (AllReadyH.cons (o := { dst := some 7, op := Op.alloc 22, type := 0, pos := "ladder.go:57", after := #[], guard := none }) rfl (fun K hK => ?_) AllReadyH.nil))
      · go_simp
        go_at_call 16
        refine (implMult_any f (lad g k) H2.out.1 (lad_byt _ _) X O1 hX hO1 _ (P1.out.below hH1)).mono ?_
        rintro e w2 ⟨O2, rfl, hO2, hb2⟩
        go_wp2_with fail
        refine hK.out _ _ (hH1.trans (hb2.out.mono hH1.size)) (fun hH2 => ?_)
        clear hK K
        try simp only [Act.put, List.setIfInBounds_toArray, List.set_cons_zero, List.set_cons_succ]
        refine wpAnyH_ready (rs := [5]) (by kernel_rfl) (by simp) (AllReadyH.cons (o := { dst := some 7, op := Op.alloc 22, type := 0, pos := "ladder.go:57", after := #[], guard := none }) rfl (fun K hK => ?_) AllReadyH.nil)
        · go_simp
          go_wp2_with fail
          refine hK.out _ _ (hH2.alloc hH2.size _) (fun hH3 => ?_)
          clear hK K
          try simp only [Act.put, List.setIfInBounds_toArray, List.set_cons_zero, List.set_cons_succ]
          have F3 : Hid ((World.alloc w2 (.cells (List.replicate 32 (Value.int .u8 0)).toArray 22)).heap[w2.heap.size]? = some (.cells (List.replicate 32 (Value.int .u8 0)).toArray 22 (0, 0)) ∧ (List.replicate 32 (Value.int .u8 0)).toArray.size = 32) := hid ⟨heap_alloc_new w2 _, zeros_len⟩
          have hm3 : W1.heap.size ≤ w2.heap.size := hH2.size
          refine wpAnyH_ready (rs := [6]) (by kernel_rfl) (by simp) (AllReadyH.cons (o := { dst := none, op := Op.store 22 (Operand.tmp 7) (Operand.tmp 13), type := 0, pos := "ladder.go:57", after := #[{ on := 5, ground := Ground.data }, { on := 4, ground := Ground.data }, { on := 4, ground := Ground.chain }, { on := 0, ground := Ground.phase }, { on := 1, ground := Ground.phase }, { on := 2, ground := Ground.phase }, { on := 3, ground := Ground.phase }, { on := 4, ground := Ground.phase }, { on := 5, ground := Ground.phase }], guard := none }) rfl (fun K hK => ?_) AllReadyH.nil)
          · refine step_store_arr rfl (.tmp 7) (.tmp 13) rfl (w2.heap.size) (lad f (lad g k)) O2 _ rfl rfl F3 hO2 W1.heap.size W1 ⟨hH3, hm3⟩ ?_
            intro w4 AR4 hB4
            refine hK.out _ _ hB4 (fun hH4 => ?_)
            clear hK K
            try simp only [Act.put]
            refine wpAnyH_done (by kernel_rfl) ?_ _
            exact ⟨w2.heap.size, O1, O2, rfl, hm3, AR4, hH4⟩
      · go_simp
        go_wp2_with fail
        refine hK.out _ _ (hH1.alloc hH1.size _) (fun hH5 => ?_)
        clear hK K
        try simp only [Act.put, List.setIfInBounds_toArray, List.set_cons_zero, List.set_cons_succ]
        have F5 : Hid ((World.alloc w1 (.cells (List.replicate 32 (Value.int .u8 0)).toArray 22)).heap[w1.heap.size]? = some (.cells (List.replicate 32 (Value.int .u8 0)).toArray 22 (0, 0)) ∧ (List.replicate 32 (Value.int .u8 0)).toArray.size = 32) := hid ⟨heap_alloc_new w1 _, zeros_len⟩
        have hm5 : W1.heap.size ≤ w1.heap.size := hH1.size
        refine wpAnyH_ready (rs := [4]) (by kernel_rfl) (by simp) (AllReadyH.cons (o := { dst := some 13, op := Op.call { callee := Callee.value (Operand.func 16), args := #[Operand.tmp 9, Operand.tmp 12], argTypes := #[22, 22] }, type := 22, pos := "ladder.go:57", after := #[{ on := 0, ground := Ground.data }, { on := 3, ground := Ground.data }, { on := 3, ground := Ground.chain }], guard := none }) rfl (fun K hK => ?_) AllReadyH.nil)
        · go_simp
          go_at_call 16
          refine (implMult_any f (lad g k) H2.out.1 (lad_byt _ _) X O1 hX hO1 _ (P1.out.below hH5)).mono ?_
          rintro e w6 ⟨O6, rfl, hO6, hb6⟩
          go_wp2_with fail
          refine hK.out _ _ (hH5.trans (hb6.out.mono hH5.size)) (fun hH6 => ?_)
          clear hK K
          try simp only [Act.put, List.setIfInBounds_toArray, List.set_cons_zero, List.set_cons_succ]
          have F6 := cells_after F5 hb6
          refine wpAnyH_ready (rs := [6]) (by kernel_rfl) (by simp) (AllReadyH.cons (o := { dst := none, op := Op.store 22 (Operand.tmp 7) (Operand.tmp 13), type := 0, pos := "ladder.go:57", after := #[{ on := 5, ground := Ground.data }, { on := 4, ground := Ground.data }, { on := 4, ground := Ground.chain }, { on := 0, ground := Ground.phase }, { on := 1, ground := Ground.phase }, { on := 2, ground := Ground.phase }, { on := 3, ground := Ground.phase }, { on := 4, ground := Ground.phase }, { on := 5, ground := Ground.phase }], guard := none }) rfl (fun K hK => ?_) AllReadyH.nil)
          · refine step_store_arr rfl (.tmp 7) (.tmp 13) rfl (w1.heap.size) (lad f (lad g k)) O6 _ rfl rfl F6 hO6 W1.heap.size W1 ⟨hH6, hm5⟩ ?_
            intro w7 AR7 hB7
            refine hK.out _ _ hB7 (fun hH7 => ?_)
            clear hK K
            try simp only [Act.put]
            refine wpAnyH_done (by kernel_rfl) ?_ _
            exact ⟨w1.heap.size, O1, O6, rfl, hm5, AR7, hH7⟩
    · go_simp
      go_wp2_with fail
      refine hK.out _ _ (hH0.alloc hH0.size _) (fun hH8 => ?_)
      clear hK K
      try simp only [Act.put, List.setIfInBounds_toArray, List.set_cons_zero, List.set_cons_succ]
      have F8 : Hid ((World.alloc W1.drew (.cells (List.replicate 32 (Value.int .u8 0)).toArray 22)).heap[W1.drew.heap.size]? = some (.cells (List.replicate 32 (Value.int .u8 0)).toArray 22 (0, 0)) ∧ (List.replicate 32 (Value.int .u8 0)).toArray.size = 32) := hid ⟨heap_alloc_new W1.drew _, zeros_len⟩
      have hm8 : W1.heap.size ≤ W1.drew.heap.size := hH0.size
      refine wpAnyH_ready (rs := [3]) (by kernel_rfl) (by simp) (AllReadyH.cons (o := { dst := some 12, op := Op.call { callee := Callee.value (Operand.func 16), args := #[Operand.tmp 10, Operand.tmp 11], argTypes := #[22, 22] }, type := 22, pos := "ladder.go:57", after := #[{ on := 1, ground := Ground.data }, { on := 2, ground := Ground.data }], guard := none }) rfl (fun K hK => ?_) AllReadyH.nil)
      · go_simp
        go_at_call 16
        refine (implMult_any g k H2.out.2.1 H2.out.2.2 Y V hY hV _ (P1.out.below hH8)).mono ?_
        rintro e w9 ⟨O9, rfl, hO9, hb9⟩
        go_wp2_with fail
        refine hK.out _ _ (hH8.trans (hb9.out.mono hH8.size)) (fun hH9 => ?_)
        clear hK K
        try simp only [Act.put, List.setIfInBounds_toArray, List.set_cons_zero, List.set_cons_succ]
        have F9 := cells_after F8 hb9
        refine wpAnyH_ready (rs := [4]) (by kernel_rfl) (by simp) (AllReadyH.cons (o := { dst := some 13, op := Op.call { callee := Callee.value (Operand.func 16), args := #[Operand.tmp 9, Operand.tmp 12], argTypes := #[22, 22] }, type := 22, pos := "ladder.go:57", after := #[{ on := 0, ground := Ground.data }, { on := 3, ground := Ground.data }, { on := 3, ground := Ground.chain }], guard := none }) rfl (fun K hK => ?_) AllReadyH.nil)
        · go_simp
          go_at_call 16
          refine (implMult_any f (lad g k) H2.out.1 (lad_byt _ _) X O9 hX hO9 _ (P1.out.below hH9)).mono ?_
          rintro e w10 ⟨O10, rfl, hO10, hb10⟩
          go_wp2_with fail
          refine hK.out _ _ (hH9.trans (hb10.out.mono hH9.size)) (fun hH10 => ?_)
          clear hK K
          try simp only [Act.put, List.setIfInBounds_toArray, List.set_cons_zero, List.set_cons_succ]
          have F10 := cells_after F9 hb10
          refine wpAnyH_ready (rs := [6]) (by kernel_rfl) (by simp) (AllReadyH.cons (o := { dst := none, op := Op.store 22 (Operand.tmp 7) (Operand.tmp 13), type := 0, pos := "ladder.go:57", after := #[{ on := 5, ground := Ground.data }, { on := 4, ground := Ground.data }, { on := 4, ground := Ground.chain }, { on := 0, ground := Ground.phase }, { on := 1, ground := Ground.phase }, { on := 2, ground := Ground.phase }, { on := 3, ground := Ground.phase }, { on := 4, ground := Ground.phase }, { on := 5, ground := Ground.phase }], guard := none }) rfl (fun K hK => ?_) AllReadyH.nil)
          · refine step_store_arr rfl (.tmp 7) (.tmp 13) rfl (W1.drew.heap.size) (lad f (lad g k)) O10 _ rfl rfl F10 hO10 W1.heap.size W1 ⟨hH10, hm8⟩ ?_
            intro w11 AR11 hB11
            refine hK.out _ _ hB11 (fun hH11 => ?_)
            clear hK K
            try simp only [Act.put]
            refine wpAnyH_done (by kernel_rfl) ?_ _
            exact ⟨W1.drew.heap.size, O9, O10, rfl, hm8, AR11, hH11⟩
  rintro _ W2 ⟨m, U1, U2, rfl, hm, hAm, hB2⟩
  have M1 : Hid (Arr W2 m (lad f (lad g k))) := hid hAm
  replace F0 : Hid (Arr W2 w.heap.size f) := hid (F0.out.below hB2 F0.out.size)
  replace F1 : Hid (Arr W2 (w.heap.size + 1) g) := hid (F1.out.below hB2 F1.out.size)
  replace F2 : Hid (Arr W2 (w.heap.size + 1 + 1) k) := hid (F2.out.below hB2 F2.out.size)
  replace F3 : Hid (Below w.heap.size w W2) := hid (F3.out.trans (hB2.mono F3.out.size))
  replace P1 : Hid (One5 W2) := hid (P1.out.below hB2)
  clear hm hAm hB2 W1
  obtain ⟨A1, hA1⟩ : ∃ A1, A1 = (bvals (lad f (lad g k))).toArray := ⟨_, rfl⟩
  have HA1 : Hid (A1 = (bvals (lad f (lad g k))).toArray) := hid hA1
  clear hA1
  go_wp2_with fail
  refine region_cut (fun a v => ∃ (m2 : Nat) (U3 U4 : Array Value), a = ⟨#[.agg X, .agg Y, .agg V, .pointer (some ⟨w.heap.size, 0, none⟩), .pointer (some ⟨w.heap.size + 1, 0, none⟩), .pointer (some ⟨w.heap.size + 1 + 1, 0, none⟩), .bool false, .pointer (some ⟨m, 0, none⟩), .pointer (some ⟨m2, 0, none⟩), .agg X, .agg Y, .agg V, .agg U1, .agg U2, .agg Y, .agg X, .agg V, .agg U3, .agg U4, undef, undef, undef, undef, undef, undef, undef, undef, undef, undef], []⟩ ∧ W2.heap.size ≤ m2 ∧ Arr v m2 (lad g (lad f k)) ∧ Below W2.heap.size W2 v) ?_ ?_
  · refine wp_region_held_drew (S := fun v => Below W2.heap.size W2 v) (by kernel_rfl) ((Below.refl _ _).drew) (fun hH0 => ?_)
    refine wpAnyH_take (i := 0) (oi := { dst := some 14, op := Op.load 22 (Operand.tmp 4), type := 22, pos := "ladder.go:58", after := #[], guard := none }) (v := .agg Y) rfl (by kernel_rfl) (by kernel_rfl) (by kernel_rfl) (fun _ _ _ h => h) (y_load rfl (.tmp 4) rfl (w.heap.size + 1) g Y rfl hY (fun v hv => F1.out.below hv F1.out.size)) hH0 ?_
    try simp only [Act.put, List.setIfInBounds_toArray, List.set_cons_zero, List.set_cons_succ]
    refine wpAnyH_take (i := 1) (oi := { dst := some 15, op := Op.load 22 (Operand.tmp 3), type := 22, pos := "ladder.go:58", after := #[], guard := none }) (v := .agg X) rfl (by kernel_rfl) (by kernel_rfl) (by kernel_rfl) (fun _ _ _ h => h) (y_load rfl (.tmp 3) rfl (w.heap.size) f X rfl hX (fun v hv => F0.out.below hv F0.out.size)) hH0 ?_
    try simp only [Act.put, List.setIfInBounds_toArray, List.set_cons_zero, List.set_cons_succ]
    refine wpAnyH_take (i := 2) (oi := { dst := some 16, op := Op.load 22 (Operand.tmp 5), type := 22, pos := "ladder.go:58", after := #[], guard := none }) (v := .agg V) rfl (by kernel_rfl) (by kernel_rfl) (by kernel_rfl) (fun _ _ _ h => h) (y_load rfl (.tmp 5) rfl (w.heap.size + 1 + 1) k V rfl hV (fun v hv => F2.out.below hv F2.out.size)) hH0 ?_
    try simp only [Act.put, List.setIfInBounds_toArray, List.set_cons_zero, List.set_cons_succ]
    refine wpAnyH_ready (rs := [3, 5]) (by kernel_rfl) (by simp) (AllReadyH.cons (o := { dst := some 17, op := Op.call { callee := Callee.value (Operand.func 16), args := #[Operand.tmp 15, Operand.tmp 16], argTypes := #[22, 22] }, type := 22, pos := "ladder.go:58", after := #[{ on := 1, ground := Ground.data }, { on := 2, ground := Ground.data }], guard := none }) rfl (fun K hK => ?_) (AllReadyH.cons (o := { dst := some 8, op := Op.alloc 22, type := 0, pos := "ladder.go:58", after := #[], guard := none }) rfl (fun K hK => ?_) AllReadyH.nil))
    · go_simp
      go_at_call 16
      refine (implMult_any f k H2.out.1 H2.out.2.2 X V hX hV _ (P1.out.below hH0)).mono ?_
      rintro e w1 ⟨O1, rfl, hO1, hb1⟩
      go_wp2_with fail
      refine hK.out _ _ (hH0.trans (hb1.out.mono hH0.size)) (fun hH1 => ?_)
      clear hK K
      try simp only [Act.put, List.setIfInBounds_toArray, List.set_cons_zero, List.set_cons_succ]
      refine wpAnyH_ready (rs := [4, 5]) (by kernel_rfl) (by simp) (AllReadyH.cons (o := { dst := some 18, op := Op.call { callee := Callee.value (Operand.func 16), args := #[Operand.tmp 14, Operand.tmp 17], argTypes := #[22, 22] }, type := 22, pos := "ladder.go:58", after := #[{ on := 0, ground := Ground.data }, { on := 3, ground := Ground.data }, { on := 3, ground := Ground.chain }], guard := none }) rfl (fun K hK => ?_) (AllReadyH.cons (o := { dst := some 8, op := Op.alloc 22, type := 0, pos := "ladder.go:58", after := #[], guard := none }) rfl (fun K hK => ?_) AllReadyH.nil))
      · go_simp
        go_at_call 16
        refine (implMult_any g (lad f k) H2.out.2.1 (lad_byt _ _) Y O1 hY hO1 _ (P1.out.below hH1)).mono ?_
        rintro e w2 ⟨O2, rfl, hO2, hb2⟩
        go_wp2_with fail
        refine hK.out _ _ (hH1.trans (hb2.out.mono hH1.size)) (fun hH2 => ?_)
        clear hK K
        try simp only [Act.put, List.setIfInBounds_toArray, List.set_cons_zero, List.set_cons_succ]
        refine wpAnyH_ready (rs := [5]) (by kernel_rfl) (by simp) (AllReadyH.cons (o := { dst := some 8, op := Op.alloc 22, type := 0, pos := "ladder.go:58", after := #[], guard := none }) rfl (fun K hK => ?_) AllReadyH.nil)
        · go_simp
          go_wp2_with fail
          refine hK.out _ _ (hH2.alloc hH2.size _) (fun hH3 => ?_)
          clear hK K
          try simp only [Act.put, List.setIfInBounds_toArray, List.set_cons_zero, List.set_cons_succ]
          have F3 : Hid ((World.alloc w2 (.cells (List.replicate 32 (Value.int .u8 0)).toArray 22)).heap[w2.heap.size]? = some (.cells (List.replicate 32 (Value.int .u8 0)).toArray 22 (0, 0)) ∧ (List.replicate 32 (Value.int .u8 0)).toArray.size = 32) := hid ⟨heap_alloc_new w2 _, zeros_len⟩
          have hm3 : W2.heap.size ≤ w2.heap.size := hH2.size
          refine wpAnyH_ready (rs := [6]) (by kernel_rfl) (by simp) (AllReadyH.cons (o := { dst := none, op := Op.store 22 (Operand.tmp 8) (Operand.tmp 18), type := 0, pos := "ladder.go:58", after := #[{ on := 5, ground := Ground.data }, { on := 4, ground := Ground.data }, { on := 4, ground := Ground.chain }, { on := 0, ground := Ground.phase }, { on := 1, ground := Ground.phase }, { on := 2, ground := Ground.phase }, { on := 3, ground := Ground.phase }, { on := 4, ground := Ground.phase }, { on := 5, ground := Ground.phase }], guard := none }) rfl (fun K hK => ?_) AllReadyH.nil)
          · refine step_store_arr rfl (.tmp 8) (.tmp 18) rfl (w2.heap.size) (lad g (lad f k)) O2 _ rfl rfl F3 hO2 W2.heap.size W2 ⟨hH3, hm3⟩ ?_
            intro w4 AR4 hB4
            refine hK.out _ _ hB4 (fun hH4 => ?_)
            clear hK K
            try simp only [Act.put]
            refine wpAnyH_done (by kernel_rfl) ?_ _
            exact ⟨w2.heap.size, O1, O2, rfl, hm3, AR4, hH4⟩
      · go_simp
        go_wp2_with fail
        refine hK.out _ _ (hH1.alloc hH1.size _) (fun hH5 => ?_)
        clear hK K
        try simp only [Act.put, List.setIfInBounds_toArray, List.set_cons_zero, List.set_cons_succ]
        have F5 : Hid ((World.alloc w1 (.cells (List.replicate 32 (Value.int .u8 0)).toArray 22)).heap[w1.heap.size]? = some (.cells (List.replicate 32 (Value.int .u8 0)).toArray 22 (0, 0)) ∧ (List.replicate 32 (Value.int .u8 0)).toArray.size = 32) := hid ⟨heap_alloc_new w1 _, zeros_len⟩
        have hm5 : W2.heap.size ≤ w1.heap.size := hH1.size
        refine wpAnyH_ready (rs := [4]) (by kernel_rfl) (by simp) (AllReadyH.cons (o := { dst := some 18, op := Op.call { callee := Callee.value (Operand.func 16), args := #[Operand.tmp 14, Operand.tmp 17], argTypes := #[22, 22] }, type := 22, pos := "ladder.go:58", after := #[{ on := 0, ground := Ground.data }, { on := 3, ground := Ground.data }, { on := 3, ground := Ground.chain }], guard := none }) rfl (fun K hK => ?_) AllReadyH.nil)
        · go_simp
          go_at_call 16
          refine (implMult_any g (lad f k) H2.out.2.1 (lad_byt _ _) Y O1 hY hO1 _ (P1.out.below hH5)).mono ?_
          rintro e w6 ⟨O6, rfl, hO6, hb6⟩
          go_wp2_with fail
          refine hK.out _ _ (hH5.trans (hb6.out.mono hH5.size)) (fun hH6 => ?_)
          clear hK K
          try simp only [Act.put, List.setIfInBounds_toArray, List.set_cons_zero, List.set_cons_succ]
          have F6 := cells_after F5 hb6
          refine wpAnyH_ready (rs := [6]) (by kernel_rfl) (by simp) (AllReadyH.cons (o := { dst := none, op := Op.store 22 (Operand.tmp 8) (Operand.tmp 18), type := 0, pos := "ladder.go:58", after := #[{ on := 5, ground := Ground.data }, { on := 4, ground := Ground.data }, { on := 4, ground := Ground.chain }, { on := 0, ground := Ground.phase }, { on := 1, ground := Ground.phase }, { on := 2, ground := Ground.phase }, { on := 3, ground := Ground.phase }, { on := 4, ground := Ground.phase }, { on := 5, ground := Ground.phase }], guard := none }) rfl (fun K hK => ?_) AllReadyH.nil)
          · refine step_store_arr rfl (.tmp 8) (.tmp 18) rfl (w1.heap.size) (lad g (lad f k)) O6 _ rfl rfl F6 hO6 W2.heap.size W2 ⟨hH6, hm5⟩ ?_
            intro w7 AR7 hB7
            refine hK.out _ _ hB7 (fun hH7 => ?_)
            clear hK K
            try simp only [Act.put]
            refine wpAnyH_done (by kernel_rfl) ?_ _
            exact ⟨w1.heap.size, O1, O6, rfl, hm5, AR7, hH7⟩
    · go_simp
      go_wp2_with fail
      refine hK.out _ _ (hH0.alloc hH0.size _) (fun hH8 => ?_)
      clear hK K
      try simp only [Act.put, List.setIfInBounds_toArray, List.set_cons_zero, List.set_cons_succ]
      have F8 : Hid ((World.alloc W2.drew (.cells (List.replicate 32 (Value.int .u8 0)).toArray 22)).heap[W2.drew.heap.size]? = some (.cells (List.replicate 32 (Value.int .u8 0)).toArray 22 (0, 0)) ∧ (List.replicate 32 (Value.int .u8 0)).toArray.size = 32) := hid ⟨heap_alloc_new W2.drew _, zeros_len⟩
      have hm8 : W2.heap.size ≤ W2.drew.heap.size := hH0.size
      refine wpAnyH_ready (rs := [3]) (by kernel_rfl) (by simp) (AllReadyH.cons (o := { dst := some 17, op := Op.call { callee := Callee.value (Operand.func 16), args := #[Operand.tmp 15, Operand.tmp 16], argTypes := #[22, 22] }, type := 22, pos := "ladder.go:58", after := #[{ on := 1, ground := Ground.data }, { on := 2, ground := Ground.data }], guard := none }) rfl (fun K hK => ?_) AllReadyH.nil)
      · go_simp
        go_at_call 16
        refine (implMult_any f k H2.out.1 H2.out.2.2 X V hX hV _ (P1.out.below hH8)).mono ?_
        rintro e w9 ⟨O9, rfl, hO9, hb9⟩
        go_wp2_with fail
        refine hK.out _ _ (hH8.trans (hb9.out.mono hH8.size)) (fun hH9 => ?_)
        clear hK K
        try simp only [Act.put, List.setIfInBounds_toArray, List.set_cons_zero, List.set_cons_succ]
        have F9 := cells_after F8 hb9
        refine wpAnyH_ready (rs := [4]) (by kernel_rfl) (by simp) (AllReadyH.cons (o := { dst := some 18, op := Op.call { callee := Callee.value (Operand.func 16), args := #[Operand.tmp 14, Operand.tmp 17], argTypes := #[22, 22] }, type := 22, pos := "ladder.go:58", after := #[{ on := 0, ground := Ground.data }, { on := 3, ground := Ground.data }, { on := 3, ground := Ground.chain }], guard := none }) rfl (fun K hK => ?_) AllReadyH.nil)
        · go_simp
          go_at_call 16
          refine (implMult_any g (lad f k) H2.out.2.1 (lad_byt _ _) Y O9 hY hO9 _ (P1.out.below hH9)).mono ?_
          rintro e w10 ⟨O10, rfl, hO10, hb10⟩
          go_wp2_with fail
          refine hK.out _ _ (hH9.trans (hb10.out.mono hH9.size)) (fun hH10 => ?_)
          clear hK K
          try simp only [Act.put, List.setIfInBounds_toArray, List.set_cons_zero, List.set_cons_succ]
          have F10 := cells_after F9 hb10
          refine wpAnyH_ready (rs := [6]) (by kernel_rfl) (by simp) (AllReadyH.cons (o := { dst := none, op := Op.store 22 (Operand.tmp 8) (Operand.tmp 18), type := 0, pos := "ladder.go:58", after := #[{ on := 5, ground := Ground.data }, { on := 4, ground := Ground.data }, { on := 4, ground := Ground.chain }, { on := 0, ground := Ground.phase }, { on := 1, ground := Ground.phase }, { on := 2, ground := Ground.phase }, { on := 3, ground := Ground.phase }, { on := 4, ground := Ground.phase }, { on := 5, ground := Ground.phase }], guard := none }) rfl (fun K hK => ?_) AllReadyH.nil)
          · refine step_store_arr rfl (.tmp 8) (.tmp 18) rfl (W2.drew.heap.size) (lad g (lad f k)) O10 _ rfl rfl F10 hO10 W2.heap.size W2 ⟨hH10, hm8⟩ ?_
            intro w11 AR11 hB11
            refine hK.out _ _ hB11 (fun hH11 => ?_)
            clear hK K
            try simp only [Act.put]
            refine wpAnyH_done (by kernel_rfl) ?_ _
            exact ⟨W2.drew.heap.size, O9, O10, rfl, hm8, AR11, hH11⟩
  rintro _ W3 ⟨m2, U3, U4, rfl, hm, hAm, hB2⟩
  have M2 : Hid (Arr W3 m2 (lad g (lad f k))) := hid hAm
  replace M1 : Hid (Arr W3 m (lad f (lad g k))) := hid (M1.out.below hB2 M1.out.size)
  replace F0 : Hid (Arr W3 w.heap.size f) := hid (F0.out.below hB2 F0.out.size)
  replace F3 : Hid (Below w.heap.size w W3) := hid (F3.out.trans (hB2.mono F3.out.size))
  replace P1 : Hid (One5 W3) := hid (P1.out.below hB2)
  clear hm hAm hB2 F1 F2 W2
  obtain ⟨A2, hA2⟩ : ∃ A2, A2 = (bvals (lad g (lad f k))).toArray := ⟨_, rfl⟩
  have HA2 : Hid (A2 = (bvals (lad g (lad f k))).toArray) := hid hA2
  clear hA2
  go_wp2_with fail
  refine wp_region_held_drew (S := fun v => Below W3.heap.size W3 v) (by kernel_rfl) ((Below.refl _ _).drew) (fun hH0 => ?_)
  refine wpAnyH_take (i := 0) (oi := { dst := some 19, op := Op.load 22 (Operand.tmp 7), type := 22, pos := "ladder.go:59", after := #[], guard := none }) (v := .agg A1) rfl (by kernel_rfl) (by kernel_rfl) (by kernel_rfl) (fun _ _ _ h => h) (y_load rfl (.tmp 7) rfl (m) (lad f (lad g k)) A1 rfl HA1 (fun v hv => M1.out.below hv M1.out.size)) hH0 ?_
  try simp only [Act.put, List.setIfInBounds_toArray, List.set_cons_zero, List.set_cons_succ]
  refine wpAnyH_take (i := 1) (oi := { dst := some 20, op := Op.load 22 (Operand.tmp 8), type := 22, pos := "ladder.go:59", after := #[], guard := none }) (v := .agg A2) rfl (by kernel_rfl) (by kernel_rfl) (by kernel_rfl) (fun _ _ _ h => h) (y_load rfl (.tmp 8) rfl (m2) (lad g (lad f k)) A2 rfl HA2 (fun v hv => M2.out.below hv M2.out.size)) hH0 ?_
  try simp only [Act.put, List.setIfInBounds_toArray, List.set_cons_zero, List.set_cons_succ]
  refine wpAnyH_take (i := 2) (oi := { dst := some 21, op := Op.binOp BinOp.eql 22 (Operand.tmp 19) (Operand.tmp 20) 22, type := 4, pos := "ladder.go:59", after := #[{ on := 0, ground := Ground.data }, { on := 1, ground := Ground.data }], guard := none }) (v := .bool true) rfl (by kernel_rfl) (by kernel_rfl) (by kernel_rfl) (fun _ _ _ h => h) (y_eql rfl (.tmp 19) (.tmp 20) _ rfl (lad f (lad g k)) (lad g (lad f k)) A1 A2 rfl rfl HA1 HA2 true (same_eq (congrArg bvals (lad_turns f g k)))) hH0 ?_
  try simp only [Act.put, List.setIfInBounds_toArray, List.set_cons_zero, List.set_cons_succ]
  refine wpAnyH_take (i := 3) (oi := { dst := some 22, op := Op.move (Operand.tmp 21), type := 4, pos := "ladder.go:59", after := #[{ on := 2, ground := Ground.data }], guard := none }) (v := .bool true) rfl (by kernel_rfl) (by kernel_rfl) (by kernel_rfl) (fun _ _ _ h => h) (Or.inl ⟨rfl, fun v hv => rfl⟩) hH0 ?_
  try simp only [Act.put, List.setIfInBounds_toArray, List.set_cons_zero, List.set_cons_succ]
  refine wpAnyH_take (i := 4) (oi := { dst := some 23, op := Op.load 22 (Operand.tmp 3), type := 22, pos := "ladder.go:59", after := #[{ on := 3, ground := Ground.guard }], guard := some (3, true) }) (v := .agg X) rfl (by kernel_rfl) (by kernel_rfl) (by kernel_rfl) (fun _ _ _ h => h) (y_load rfl (.tmp 3) rfl (w.heap.size) f X rfl hX (fun v hv => F0.out.below hv F0.out.size)) hH0 ?_
  try simp only [Act.put, List.setIfInBounds_toArray, List.set_cons_zero, List.set_cons_succ]
  refine wpAnyH_take (i := 7) (oi := { dst := some 26, op := Op.build 22 #[], type := 22, pos := "ladder.go:59", after := #[{ on := 3, ground := Ground.guard }], guard := some (3, true) }) (v := .agg N) rfl (by kernel_rfl) (by kernel_rfl) (by kernel_rfl) (fun _ _ _ h => h) (y_build rfl _ rfl zeros N HN (by kernel_rfl)) hH0 ?_
  try simp only [Act.put, List.setIfInBounds_toArray, List.set_cons_zero, List.set_cons_succ]
  refine wpAnyH_ready (rs := [5]) (by kernel_rfl) (by simp) (AllReadyH.cons (o := { dst := some 24, op := Op.call { callee := Callee.value (Operand.func 19), args := #[], argTypes := #[] }, type := 22, pos := "ladder.go:59", after := #[{ on := 3, ground := Ground.chain }, { on := 3, ground := Ground.guard }], guard := some (3, true) }) rfl (fun K hK => ?_) AllReadyH.nil)
  · go_simp
    go_at_call 19
    refine (nine_any _).mono ?_
    rintro e w1 ⟨O1, rfl, hO1, hb1⟩
    go_wp2_with fail
    refine hK.out _ _ (hH0.trans (hb1.out.mono hH0.size)) (fun hH1 => ?_)
    clear hK K
    try simp only [Act.put, List.setIfInBounds_toArray, List.set_cons_zero, List.set_cons_succ]
    refine wpAnyH_ready (rs := [6]) (by kernel_rfl) (by simp) (AllReadyH.cons (o := { dst := some 25, op := Op.call { callee := Callee.value (Operand.func 16), args := #[Operand.tmp 23, Operand.tmp 24], argTypes := #[22, 22] }, type := 22, pos := "ladder.go:59", after := #[{ on := 4, ground := Ground.data }, { on := 5, ground := Ground.data }, { on := 5, ground := Ground.chain }, { on := 3, ground := Ground.guard }], guard := some (3, true) }) rfl (fun K hK => ?_) AllReadyH.nil)
    · go_simp
      go_at_call 16
      refine (implMult_any f nine H2.out.1 nine_byt X O1 hX hO1 _ (P1.out.below hH1)).mono ?_
      rintro e w2 ⟨O2, rfl, hO2, hb2⟩
      go_wp2_with fail
      refine hK.out _ _ (hH1.trans (hb2.out.mono hH1.size)) (fun hH2 => ?_)
      clear hK K
      try simp only [Act.put, List.setIfInBounds_toArray, List.set_cons_zero, List.set_cons_succ]
      refine wpAnyH_take (i := 8) (oi := { dst := some 27, op := Op.binOp BinOp.neq 22 (Operand.tmp 25) (Operand.tmp 26) 22, type := 4, pos := "ladder.go:59", after := #[{ on := 6, ground := Ground.data }, { on := 7, ground := Ground.data }, { on := 3, ground := Ground.guard }], guard := some (3, true) }) (v := .bool true) rfl (by kernel_rfl) (by kernel_rfl) (by kernel_rfl) (fun _ _ _ h => h) (y_neq rfl (.tmp 25) (.tmp 26) _ rfl (lad f nine) zeros O2 N rfl rfl hO2 HN true (same_ne (lad_nine H2.out.1))) hH2 ?_
      try simp only [Act.put, List.setIfInBounds_toArray, List.set_cons_zero, List.set_cons_succ]
      refine wpAnyH_take (i := 9) (oi := { dst := some 28, op := Op.pick (Operand.tmp 22) (Operand.tmp 27) (Operand.const (Value.bool false)), type := 4, pos := "ladder.go:59", after := #[{ on := 3, ground := Ground.data }, { on := 8, ground := Ground.data }], guard := none }) (v := .bool true) rfl (by kernel_rfl) (by kernel_rfl) (by kernel_rfl) (fun _ _ _ h => h) (Or.inl ⟨rfl, fun v hv => rfl⟩) hH2 ?_
      try simp only [Act.put, List.setIfInBounds_toArray, List.set_cons_zero, List.set_cons_succ]
      refine wpAnyH_take (i := 10) (oi := { dst := some 6, op := Op.assign (Operand.tmp 28), type := 4, pos := "ladder.go:59", after := #[{ on := 9, ground := Ground.data }, { on := 6, ground := Ground.chain }, { on := 0, ground := Ground.phase }, { on := 1, ground := Ground.phase }, { on := 2, ground := Ground.phase }, { on := 3, ground := Ground.phase }, { on := 4, ground := Ground.phase }, { on := 5, ground := Ground.phase }, { on := 6, ground := Ground.phase }, { on := 7, ground := Ground.phase }, { on := 8, ground := Ground.phase }, { on := 9, ground := Ground.phase }], guard := none }) (v := .bool true) rfl (by kernel_rfl) (by kernel_rfl) (by kernel_rfl) (fun _ _ _ h => h) (Or.inl ⟨rfl, fun v hv => rfl⟩) hH2 ?_
      try simp only [Act.put, List.setIfInBounds_toArray, List.set_cons_zero, List.set_cons_succ]
      refine wpAnyH_done (by kernel_rfl) ?_ _
      go_wp2_with fail
      go_ret
      exact ⟨rfl, F3.out.trans (hH2.mono F3.out.size)⟩
end Go.Proofs.YtflmkgecgijncaaDoor
