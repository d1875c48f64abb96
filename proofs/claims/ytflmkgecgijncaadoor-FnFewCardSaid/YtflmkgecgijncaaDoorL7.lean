/-
  spec.Beyond, laws.FnBeyond. Printed by gen_beyond.py.
-/
import Derived.Test.YtflmkgecgijncaaDoorS11
namespace Go.Proofs.YtflmkgecgijncaaDoor
open Go.RowKit Go.Shelf Mth

theorem RetA.arr {w : World} {f : Nat → Int} {e : Ending} {w' : World} (h : RetA w f e w') : RetArr w f e w' := ⟨_, h.1, hid rfl, hid h.2⟩

set_option maxRecDepth 100000 in
set_option maxHeartbeats 1000000 in
theorem beyond_any (n : Int) (hn : 0 ≤ n ∧ n ≤ 18) (w : World) : Calls Tryd.prog 21 #[.int .u8 n] w (RetArr w (byteOf (n + pI))) := by
  have HN := hid hn
  obtain ⟨n0, n1⟩ := hn
  have S0 := (Sto.start w).zeros
  have H := hid S0
  have LT := hid (show n + pI < bp 8 by have := pI_bp; rw [bp_eight]; unfold pI; omega)
  clear S0
  have w0 : IntKind.u64.wrap n = n := by rw [IntKind.wrap_u64]; omega
  go_enter Tryd.func21, Tryd.ntmps21
  go_wp2_with (first
    | (go_at_call 31; (with_reducible refine (small_any n HN.out.1 (by have := HN.out; omega) _).mono ?_); rintro e w1 ⟨rfl, hb⟩; replace H := hid (H.out.call hb); clear hb)
    | (go_at_call 30; (with_reducible refine (prime_any _).mono ?_); rintro e w1 ⟨rfl, hb⟩; replace H := hid (H.out.call hb); clear hb)
    | (go_at_call 42; (with_reducible refine (sum_any n pI HN.out.1 (by unfold pI; omega) LT.out _).mono ?_); rintro e w1 ⟨rfl, hb⟩; replace H := hid (H.out.call hb); clear hb)
    | (go_at_call 37; (with_reducible refine (octets_any (n + pI) _).mono ?_); rintro e w1 ⟨rfl, hb⟩; replace H := hid (H.out.call hb); clear hb)
    | (refine store_a rfl _ _ rfl w.heap.size (byteOf (n + pI)) rfl rfl [] H.out ?_; intro w2 H2))
  exact ret_a (p := 2) rfl rfl (H2.out.mid []) rfl (RetA.arr ⟨rfl, H2.out.below⟩)

theorem unum_beyond {n : Int} (hn : 0 ≤ n ∧ n ≤ 18) : fp (unum (byteOf (n + pI))) = fp (unum (upd zeros 0 n)) := by
  have e1 : unum (byteOf (n + pI)) = n + pI := by
    unfold unum
    rw [byteOf_num (by unfold pI; omega) (by unfold pI; omega)]
    unfold pI; omega
  have e2 : unum (upd zeros 0 n) = n := by
    unfold unum
    have : leN (upd zeros 0 n) 32 0 = n := by simp [leN, upd, zeros]
    rw [this]; omega
  rw [e1, e2]
  apply fp_eq
  unfold pI; omega

theorem byt_one {n : Int} (hn : 0 ≤ n ∧ n ≤ 255) : Byt (upd zeros 0 n) := by
  intro j; unfold upd zeros; split <;> omega

set_option maxRecDepth 100000 in
set_option maxHeartbeats 1000000 in
theorem fnBeyond_low (f : Nat → Int) (n : Int) (hf : Byt f) (hn : 0 ≤ n ∧ n ≤ 18) (X : Array Value) (hX : Hid (X = (bvals f).toArray)) (w : World) (h1 : One5 w) :
    Calls Tryd.prog 7 #[.agg X, .int .u8 n] w fun e w' => e = .returned (.bool true) ∧ Below w.heap.size w w' := by
  have HE : Hid (lad f (byteOf (n + pI)) = lad f (upd zeros 0 n)) := hid (lad_congr rfl (unum_beyond hn))
  have H2 : Hid (Byt f ∧ Byt (upd zeros 0 n)) := hid ⟨hf, byt_one ⟨hn.1, by omega⟩⟩
  have HN0 := hid hn
  have H1 : Hid (One5 w) := hid h1
  obtain ⟨n0, n1⟩ := hn
  clear h1 hf
  obtain ⟨N, hN⟩ : ∃ N, N = (bvals zeros).toArray := ⟨_, rfl⟩
  have HN : Hid (N = (bvals zeros).toArray) := hid hN
  clear hN
  obtain ⟨Z, hZ⟩ : ∃ Z, Z = (bvals (upd zeros 0 n)).toArray := ⟨_, rfl⟩
  have HZ : Hid (Z = (bvals (upd zeros 0 n)).toArray) := hid hZ
  clear hZ
  have A0 : Arr (w.alloc (.cells X 22)) w.heap.size f := by rw [hX.out]; exact heap_alloc_new w _
  have B2 : Below w.heap.size w (w.alloc (.cells X 22)) := (Below.refl _ _).alloc (Nat.le_refl _) _
  have A3 : One5 (w.alloc (.cells X 22)) := H1.out.below B2
  have HA := hid (And.intro A0 (And.intro A3 B2))
  clear A0 A3 B2
  go_enter Tryd.func7, Tryd.ntmps7
  go_wp2_with fail
  refine wp_region_held_drew (S := fun v => Arr v (w.heap.size) f ∧ One5 v ∧ Below w.heap.size w v) (by kernel_rfl) (⟨HA.out.1, HA.out.2.1, HA.out.2.2.drew⟩) (fun hH0 => ?_)
  refine wpAnyH_take (i := 0) (oi := { dst := some 7, op := Op.load 22 (Operand.tmp 2), type := 22, pos := "ladder.go:82", after := #[], guard := none }) (v := .agg X) rfl (by kernel_rfl) (by kernel_rfl) (by kernel_rfl) (fun _ _ _ h => h) (y_load rfl (.tmp 2) rfl (w.heap.size) f X rfl hX (fun v hv => hv.1)) hH0 ?_
  try simp only [Act.put, List.setIfInBounds_toArray, List.set_cons_zero, List.set_cons_succ]
  refine wpAnyH_take (i := 1) (oi := { dst := some 8, op := Op.move (Operand.tmp 1), type := 5, pos := "ladder.go:82", after := #[], guard := none }) (v := .int .u8 n) rfl (by kernel_rfl) (by kernel_rfl) (by kernel_rfl) (fun _ _ _ h => h) (Or.inl ⟨rfl, fun v hv => rfl⟩) hH0 ?_
  try simp only [Act.put, List.setIfInBounds_toArray, List.set_cons_zero, List.set_cons_succ]
  refine wpAnyH_take (i := 5) (oi := { dst := some 12, op := Op.move (Operand.tmp 1), type := 5, pos := "ladder.go:82", after := #[], guard := none }) (v := .int .u8 n) rfl (by kernel_rfl) (by kernel_rfl) (by kernel_rfl) (fun _ _ _ h => h) (Or.inl ⟨rfl, fun v hv => rfl⟩) hH0 ?_
  try simp only [Act.put, List.setIfInBounds_toArray, List.set_cons_zero, List.set_cons_succ]
  refine wpAnyH_take (i := 6) (oi := { dst := some 13, op := Op.build 22 #[(0, Operand.tmp 12)], type := 22, pos := "ladder.go:82", after := #[{ on := 5, ground := Ground.data }], guard := none }) (v := .agg Z) rfl (by kernel_rfl) (by kernel_rfl) (by kernel_rfl) (fun _ _ _ h => h) (y_build rfl _ rfl (upd zeros 0 n) Z HZ (by kernel_rfl)) hH0 ?_
  try simp only [Act.put, List.setIfInBounds_toArray, List.set_cons_zero, List.set_cons_succ]
  refine wpAnyH_take (i := 4) (oi := { dst := some 11, op := Op.load 22 (Operand.tmp 2), type := 22, pos := "ladder.go:82", after := #[], guard := none }) (v := .agg X) rfl (by kernel_rfl) (by kernel_rfl) (by kernel_rfl) (fun _ _ _ h => h) (y_load rfl (.tmp 2) rfl (w.heap.size) f X rfl hX (fun v hv => hv.1)) hH0 ?_
  try simp only [Act.put, List.setIfInBounds_toArray, List.set_cons_zero, List.set_cons_succ]
  refine wpAnyH_ready (rs := [2]) (by kernel_rfl) (by simp) (AllReadyH.cons (o := { dst := some 9, op := Op.call { callee := Callee.value (Operand.func 21), args := #[Operand.tmp 8], argTypes := #[5] }, type := 22, pos := "ladder.go:82", after := #[{ on := 1, ground := Ground.data }], guard := none }) rfl (fun K hK => ?_) AllReadyH.nil)
  go_simp
  go_at_call 21
  refine (beyond_any n HN0.out _).mono ?_
  rintro e w1 ⟨O1, rfl, hO1, hb1⟩
  go_wp2_with fail
  refine hK.out _ _ ⟨hH0.1.below hb1.out hH0.1.size, hH0.2.1.below hb1.out, hH0.2.2.trans (hb1.out.mono hH0.2.2.size)⟩ (fun hH1 => ?_)
  clear hK K
  try simp only [Act.put, List.setIfInBounds_toArray, List.set_cons_zero, List.set_cons_succ]
  refine wpAnyH_ready (rs := [3]) (by kernel_rfl) (by simp) (AllReadyH.cons (o := { dst := some 10, op := Op.call { callee := Callee.value (Operand.func 16), args := #[Operand.tmp 7, Operand.tmp 9], argTypes := #[22, 22] }, type := 22, pos := "ladder.go:82", after := #[{ on := 0, ground := Ground.data }, { on := 2, ground := Ground.data }, { on := 2, ground := Ground.chain }], guard := none }) rfl (fun K hK => ?_) AllReadyH.nil)
  go_simp
  go_at_call 16
  refine (implMult_any f (byteOf (n + pI)) H2.out.1 (byteOf_byt _) X O1 hX hO1 _ hH1.2.1).mono ?_
  rintro e w2 ⟨O2, rfl, hO2, hb2⟩
  go_wp2_with fail
  refine hK.out _ _ ⟨hH1.1.below hb2.out hH1.1.size, hH1.2.1.below hb2.out, hH1.2.2.trans (hb2.out.mono hH1.2.2.size)⟩ (fun hH2 => ?_)
  clear hK K
  try simp only [Act.put, List.setIfInBounds_toArray, List.set_cons_zero, List.set_cons_succ]
  refine wpAnyH_ready (rs := [7]) (by kernel_rfl) (by simp) (AllReadyH.cons (o := { dst := some 14, op := Op.call { callee := Callee.value (Operand.func 16), args := #[Operand.tmp 11, Operand.tmp 13], argTypes := #[22, 22] }, type := 22, pos := "ladder.go:82", after := #[{ on := 4, ground := Ground.data }, { on := 6, ground := Ground.data }, { on := 3, ground := Ground.chain }], guard := none }) rfl (fun K hK => ?_) AllReadyH.nil)
  go_simp
  go_at_call 16
  refine (implMult_any f (upd zeros 0 n) H2.out.1 H2.out.2 X Z hX HZ _ hH2.2.1).mono ?_
  rintro e w3 ⟨O3, rfl, hO3, hb3⟩
  go_wp2_with fail
  refine hK.out _ _ ⟨hH2.1.below hb3.out hH2.1.size, hH2.2.1.below hb3.out, hH2.2.2.trans (hb3.out.mono hH2.2.2.size)⟩ (fun hH3 => ?_)
  clear hK K
  try simp only [Act.put, List.setIfInBounds_toArray, List.set_cons_zero, List.set_cons_succ]
  refine wpAnyH_take (i := 8) (oi := { dst := some 15, op := Op.binOp BinOp.eql 22 (Operand.tmp 10) (Operand.tmp 14) 22, type := 4, pos := "ladder.go:82", after := #[{ on := 3, ground := Ground.data }, { on := 7, ground := Ground.data }], guard := none }) (v := .bool true) rfl (by kernel_rfl) (by kernel_rfl) (by kernel_rfl) (fun _ _ _ h => h) (y_eql rfl (.tmp 10) (.tmp 14) _ rfl (lad f (byteOf (n + pI))) (lad f (upd zeros 0 n)) O2 O3 rfl rfl hO2 hO3 true (same_eq (congrArg bvals HE.out))) hH3 ?_
  try simp only [Act.put, List.setIfInBounds_toArray, List.set_cons_zero, List.set_cons_succ]
  refine wpAnyH_take (i := 9) (oi := { dst := some 16, op := Op.move (Operand.tmp 15), type := 4, pos := "ladder.go:82", after := #[{ on := 8, ground := Ground.data }, { on := 7, ground := Ground.chain }], guard := none }) (v := .bool true) rfl (by kernel_rfl) (by kernel_rfl) (by kernel_rfl) (fun _ _ _ h => h) (Or.inl ⟨rfl, fun v hv => rfl⟩) hH3 ?_
  try simp only [Act.put, List.setIfInBounds_toArray, List.set_cons_zero, List.set_cons_succ]
  refine wpAnyH_take (i := 10) (oi := { dst := some 17, op := Op.load 22 (Operand.tmp 2), type := 22, pos := "ladder.go:82", after := #[{ on := 9, ground := Ground.guard }], guard := some (9, true) }) (v := .agg X) rfl (by kernel_rfl) (by kernel_rfl) (by kernel_rfl) (fun _ _ _ h => h) (y_load rfl (.tmp 2) rfl (w.heap.size) f X rfl hX (fun v hv => hv.1)) hH3 ?_
  try simp only [Act.put, List.setIfInBounds_toArray, List.set_cons_zero, List.set_cons_succ]
  refine wpAnyH_take (i := 12) (oi := { dst := some 19, op := Op.build 22 #[], type := 22, pos := "ladder.go:82", after := #[{ on := 9, ground := Ground.guard }], guard := some (9, true) }) (v := .agg N) rfl (by kernel_rfl) (by kernel_rfl) (by kernel_rfl) (fun _ _ _ h => h) (y_build rfl _ rfl zeros N HN (by kernel_rfl)) hH3 ?_
  try simp only [Act.put, List.setIfInBounds_toArray, List.set_cons_zero, List.set_cons_succ]
  refine wpAnyH_ready (rs := [11]) (by kernel_rfl) (by simp) (AllReadyH.cons (o := { dst := some 18, op := Op.call { callee := Callee.value (Operand.func 20), args := #[Operand.tmp 17], argTypes := #[22] }, type := 22, pos := "ladder.go:82", after := #[{ on := 10, ground := Ground.data }, { on := 9, ground := Ground.chain }, { on := 9, ground := Ground.guard }], guard := some (9, true) }) rfl (fun K hK => ?_) AllReadyH.nil)
  go_simp
  go_at_call 20
  refine (implPub_any f H2.out.1 X hX _ hH3.2.1).mono ?_
  rintro e w4 ⟨O4, rfl, hO4, hb4⟩
  go_wp2_with fail
  refine hK.out _ _ ⟨hH3.1.below hb4.out hH3.1.size, hH3.2.1.below hb4.out, hH3.2.2.trans (hb4.out.mono hH3.2.2.size)⟩ (fun hH4 => ?_)
  clear hK K
  try simp only [Act.put, List.setIfInBounds_toArray, List.set_cons_zero, List.set_cons_succ]
  refine wpAnyH_take (i := 13) (oi := { dst := some 20, op := Op.binOp BinOp.neq 22 (Operand.tmp 18) (Operand.tmp 19) 22, type := 4, pos := "ladder.go:82", after := #[{ on := 11, ground := Ground.data }, { on := 12, ground := Ground.data }, { on := 9, ground := Ground.guard }], guard := some (9, true) }) (v := .bool true) rfl (by kernel_rfl) (by kernel_rfl) (by kernel_rfl) (fun _ _ _ h => h) (y_neq rfl (.tmp 18) (.tmp 19) _ rfl (lad f nine) zeros O4 N rfl rfl hO4 HN true (same_ne (lad_nine H2.out.1))) hH4 ?_
  try simp only [Act.put, List.setIfInBounds_toArray, List.set_cons_zero, List.set_cons_succ]
  refine wpAnyH_take (i := 14) (oi := { dst := some 21, op := Op.pick (Operand.tmp 16) (Operand.tmp 20) (Operand.const (Value.bool false)), type := 4, pos := "ladder.go:82", after := #[{ on := 9, ground := Ground.data }, { on := 13, ground := Ground.data }], guard := none }) (v := .bool true) rfl (by kernel_rfl) (by kernel_rfl) (by kernel_rfl) (fun _ _ _ h => h) (Or.inl ⟨rfl, fun v hv => rfl⟩) hH4 ?_
  try simp only [Act.put, List.setIfInBounds_toArray, List.set_cons_zero, List.set_cons_succ]
  refine wpAnyH_take (i := 15) (oi := { dst := some 4, op := Op.assign (Operand.tmp 21), type := 4, pos := "ladder.go:82", after := #[{ on := 14, ground := Ground.data }, { on := 11, ground := Ground.chain }, { on := 0, ground := Ground.phase }, { on := 1, ground := Ground.phase }, { on := 2, ground := Ground.phase }, { on := 3, ground := Ground.phase }, { on := 4, ground := Ground.phase }, { on := 5, ground := Ground.phase }, { on := 6, ground := Ground.phase }, { on := 7, ground := Ground.phase }, { on := 8, ground := Ground.phase }, { on := 9, ground := Ground.phase }, { on := 10, ground := Ground.phase }, { on := 11, ground := Ground.phase }, { on := 12, ground := Ground.phase }, { on := 13, ground := Ground.phase }, { on := 14, ground := Ground.phase }], guard := none }) (v := .bool true) rfl (by kernel_rfl) (by kernel_rfl) (by kernel_rfl) (fun _ _ _ h => h) (Or.inl ⟨rfl, fun v hv => rfl⟩) hH4 ?_
  try simp only [Act.put, List.setIfInBounds_toArray, List.set_cons_zero, List.set_cons_succ]
  refine wpAnyH_done (by kernel_rfl) ?_ _
  have BE : Hid (Below w.heap.size w _) := hid hH4.2.2
  go_wp2_with fail
  go_ret
  exact ⟨rfl, BE.out⟩

set_option maxRecDepth 100000 in
theorem fnBeyond_any (f : Nat → Int) (n : Int) (hf : Byt f) (hn : 0 ≤ n ∧ n ≤ 255) (X : Array Value) (hX : Hid (X = (bvals f).toArray)) (w : World) (h1 : One5 w) :
    Calls Tryd.prog 7 #[.agg X, .int .u8 n] w fun e w' => e = .returned (.bool true) ∧ Below w.heap.size w w' := by
  by_cases h : n ≤ 18
  · exact fnBeyond_low f n hf ⟨hn.1, h⟩ X hX w h1
  · obtain ⟨n0, n1⟩ := hn
    have h' : 18 < n := by omega
    clear h
    go_enter Tryd.func7, Tryd.ntmps7
    go_wp2_with fail
    go_ret
    exact ⟨rfl, (Below.refl _ _).alloc (Nat.le_refl _) _⟩
end Go.Proofs.YtflmkgecgijncaaDoor
