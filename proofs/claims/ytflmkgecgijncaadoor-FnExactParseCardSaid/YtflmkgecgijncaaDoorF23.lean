/-
  What is shared, through the thin package.
-/
import Derived.Test.YtflmkgecgijncaaDoorF22
namespace Go.Proofs.YtflmkgecgijncaaDoor
open Go.RowKit Go.Shelf

/-- The call returned the 32 bytes and whether they are no noughts; what was there is as it was. -/
def RetPair (w : World) (f : Nat → Int) (e : Ending) (w' : World) : Prop :=
  ∃ O : Array Value, e = .returned (.tuple #[.agg O, .bool (!same f zeros)]) ∧ Hid (O = (bvals f).toArray) ∧ Hid (Below w.heap.size w w')

theorem obj_lt {w : World} {b : Nat} {o : Obj} (h : w.heap[b]? = some o) : b < w.heap.size := by
  rcases Nat.lt_or_ge b w.heap.size with h' | h'
  · exact h'
  · rw [Array.getElem?_eq_none h'] at h; exact absurd h (by simp)

theorem u58 : Tryd.prog.underlying 58 = some (.interface (Tryd.prog.methodsAt 58)) := by kernel_rfl

theorem neq_held (w : World) (x : Value) : (binOp .neq 58 (.iface 98 x) .nilIface).run Tryd.prog w = .ok (.bool true) w := by
  simp only [binOp, Sem.run_bind, run_equal_held_nil w 58 98 x u58, Result.andThen_ok]; rfl
theorem neq_nil (w : World) : (binOp .neq 58 .nilIface .nilIface).run Tryd.prog w = .ok (.bool false) w := by
  simp only [binOp, Sem.run_bind, run_equal_nil_nil w 58 u58, Result.andThen_ok]; rfl
theorem guard_held (w : World) (x : Value) (o : Operand) : (eqGuard .neq 58 o (.const .nilIface) (.iface 98 x) .nilIface).run Tryd.prog w = .ok () w := by
  simp [eqGuard]
theorem guard_nil (w : World) (o : Operand) : (eqGuard .neq 58 o (.const .nilIface) .nilIface .nilIface).run Tryd.prog w = .ok () w := by
  simp [eqGuard]

set_option maxRecDepth 100000 in
set_option maxHeartbeats 1000000 in
theorem implShared_any (f g : Nat → Int) (hf : Byt f) (hg : Byt g) (X Y : Array Value) (hX : Hid (X = (bvals f).toArray)) (hY : Hid (Y = (bvals g).toArray)) (w : World) (h1 : One5 w) :
    Calls Tryd.prog 22 #[.agg X, .agg Y] w (RetPair w (lad f g)) := by
  have H1 : Hid (One5 w ∧ Byt f ∧ Byt g) := hid ⟨h1, hf, hg⟩
  clear h1 hf hg
  go_enter Tryd.func22, Tryd.ntmps22
  obtain ⟨F0, F1, F2, F3, F4⟩ := three_arr f g X Y hX hY w (List.replicate 32 (.int .u8 0)) (by simp)
  go_wp2_with (first | (refine load_arr rfl _ rfl w.heap.size f X rfl F0 hX ?_) | (refine load_arr rfl _ rfl (w.heap.size + 1) g Y rfl F1 hY ?_) | (go_at_call 43; refine (zzShared_any f g H1.out.2.1 H1.out.2.2 X Y hX hY _ (H1.out.1.below F3.out)).mono ?_; rintro e w1 ⟨O, v, rfl, hO, hb, hv⟩; have F5 := three_after F2 F3 F4 hb; have HV : Hid ((same (lad f g) zeros = true ∧ ∃ x, v = .iface 98 x) ∨ (same (lad f g) zeros = false ∧ v = .nilIface)) := hid hv; clear hb hv; have F6 : Hid ((w1.alloc (.cells (List.replicate 32 (Value.int .u8 0)).toArray 22)).heap[w1.heap.size]? = some (.cells (List.replicate 32 (Value.int .u8 0)).toArray 22 (0, 0)) ∧ (List.replicate 32 (Value.int .u8 0)).toArray.size = 32) := hid ⟨heap_alloc_new w1 _, zeros_len⟩; have F7 : Hid (Below w1.heap.size w1 (w1.alloc (.cells (List.replicate 32 (Value.int .u8 0)).toArray 22))) := hid ((Below.refl _ _).alloc (Nat.le_refl _) _)) | (refine store_arr rfl _ _ rfl w1.heap.size (lad f g) O _ rfl rfl F6 hO w1.heap.size w1 (hid ⟨F7.out, Nat.le_refl _⟩) ?_; intro w2 AR2 BL2))
  have G0 : Hid ((w2.heap[w.heap.size + 1 + 1]? = some (.cells (List.replicate 32 (Value.int .u8 0)).toArray 22 (0, 0)) ∧ (List.replicate 32 (Value.int .u8 0)).toArray.size = 32) ∧ Below w.heap.size w w2) :=
    hid ⟨⟨(BL2.out.block _ (obj_lt F5.out.1.1)).trans F5.out.1.1, F5.out.1.2⟩, F5.out.2.trans (BL2.out.mono F5.out.2.size)⟩
  rcases HV.out with ⟨hs, x, rfl⟩ | ⟨hs, rfl⟩
  · have HS : Hid (same (lad f g) zeros = true) := hid hs
    clear hs HV F0 F1 F2 F3 F4 F5 F6 F7 BL2
    simp only [guard_held, neq_held, Result.andThen_ok]
    have HZ : Hid (O = (bvals zeros).toArray) := hid (hO.out.trans (bvals_zeros HS.out))
    go_wp2_with (first | (refine wpList_y (S := fun _ => True) (y_build rfl _ rfl zeros O HZ (by kernel_rfl)) trivial ?_) | (refine store_arr rfl _ _ rfl (w.heap.size + 1 + 1) (lad f g) O _ rfl rfl (hid G0.out.1) hO w.heap.size w (hid ⟨G0.out.2, by omega⟩) ?_; intro w3 AR3 BL3))
    exact ret_two (p := 4) (q := 5) rfl rfl rfl AR3.out rfl ⟨_, by rw [HS.out]; rfl, hid rfl, BL3⟩
  · have HS : Hid (same (lad f g) zeros = false) := hid hs
    clear hs HV F0 F1 F2 F3 F4 F5 F6 F7 BL2
    simp only [guard_nil, neq_nil, Result.andThen_ok]
    go_wp2_with (first | (refine load_arr rfl _ rfl w1.heap.size (lad f g) O rfl AR2 hO ?_) | (refine store_arr rfl _ _ rfl (w.heap.size + 1 + 1) (lad f g) O _ rfl rfl (hid G0.out.1) hO w.heap.size w (hid ⟨G0.out.2, by omega⟩) ?_; intro w3 AR3 BL3))
    exact ret_two (p := 4) (q := 5) rfl rfl rfl AR3.out rfl ⟨_, by rw [HS.out]; rfl, hid rfl, BL3⟩
end Go.Proofs.YtflmkgecgijncaaDoor
