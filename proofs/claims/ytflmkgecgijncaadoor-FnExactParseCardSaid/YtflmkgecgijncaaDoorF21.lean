/-
  The public key, and the base point.
-/
import Derived.Test.YtflmkgecgijncaaDoorF20
namespace Go.Proofs.YtflmkgecgijncaaDoor
open Go.RowKit Go.Shelf

theorem zeros_len : (List.replicate 32 (Value.int .u8 0)).toArray.size = 32 := by simp

set_option maxRecDepth 100000 in
set_option maxHeartbeats 1000000 in
theorem nine_any (w : World) : Calls Tryd.prog 19 #[] w (RetArr w nine) := by
  obtain ⟨O, hO⟩ : ∃ O, O = (bvals nine).toArray := ⟨_, rfl⟩
  have HO : Hid (O = (bvals nine).toArray) := hid hO
  clear hO
  have F0 : Hid ((w.alloc (.cells (List.replicate 32 (Value.int .u8 0)).toArray 22)).heap[w.heap.size]? = some (.cells (List.replicate 32 (Value.int .u8 0)).toArray 22 (0, 0)) ∧ (List.replicate 32 (Value.int .u8 0)).toArray.size = 32) := hid ⟨heap_alloc_new w _, zeros_len⟩
  have F1 : Hid (Below w.heap.size w (w.alloc (.cells (List.replicate 32 (Value.int .u8 0)).toArray 22))) := hid ((Below.refl _ _).alloc (Nat.le_refl _) _)
  go_enter Tryd.func19, Tryd.ntmps19
  go_wp2_with (first | (refine wpList_y (S := fun _ => True) (y_build rfl _ rfl nine O HO (by kernel_rfl)) trivial ?_) | (refine store_arr rfl _ _ rfl w.heap.size nine O _ rfl rfl F0 HO w.heap.size w (hid ⟨F1.out, Nat.le_refl _⟩) ?_; intro w2 AR2 BL2))
  exact ret_arr (p := 0) rfl rfl AR2.out rfl ⟨_, rfl, hid rfl, BL2⟩

set_option maxRecDepth 100000 in
set_option maxHeartbeats 1000000 in
theorem zzPub_any (f : Nat → Int) (hf : Byt f) (X : Array Value) (hX : Hid (X = (bvals f).toArray)) (w : World) (h1 : One5 w) :
    Calls Tryd.prog 41 #[.agg X] w (RetArr w (lad f nine)) := by
  have H1 : Hid (One5 w ∧ Byt f) := hid ⟨h1, hf⟩
  clear h1 hf
  obtain ⟨O, hO⟩ : ∃ O, O = (bvals nine).toArray := ⟨_, rfl⟩
  have HO : Hid (O = (bvals nine).toArray) := hid hO
  clear hO
  have hsz : (w.alloc (.cells X 22)).heap.size = w.heap.size + 1 := by simp
  have A0 : Arr (w.alloc (.cells X 22)) w.heap.size f := by rw [hX.out]; exact heap_alloc_new w _
  obtain ⟨W1, hW1⟩ : ∃ W1, W1 = (w.alloc (.cells X 22)).alloc (.cells (List.replicate 32 (Value.int .u8 0)).toArray 22) := ⟨_, rfl⟩
  have A1 : W1.heap[w.heap.size + 1]? = some (.cells (List.replicate 32 (Value.int .u8 0)).toArray 22 (0, 0)) := by rw [hW1, ← hsz]; exact heap_alloc_new (w.alloc (.cells X 22)) _
  have B1 : Arr W1 w.heap.size f := by rw [hW1]; exact (Below.heap_alloc _ _ _ (by rw [hsz]; omega)).trans A0
  have L1 : Below w.heap.size w W1 := by rw [hW1]; exact ((Below.refl _ _).alloc (Nat.le_refl _) _).alloc (by simp) _
  have S1 : W1.heap.size = w.heap.size + 1 + 1 := by rw [hW1]; simp
  have F0 : Hid ((W1.alloc (.cells (List.replicate 32 (Value.int .u8 0)).toArray 22)).heap[w.heap.size + 1 + 1]? = some (.cells (List.replicate 32 (Value.int .u8 0)).toArray 22 (0, 0)) ∧ (List.replicate 32 (Value.int .u8 0)).toArray.size = 32) := hid ⟨by rw [← S1]; exact heap_alloc_new W1 _, zeros_len⟩
  have F1 : Hid (Below (w.heap.size + 1 + 1) W1 (W1.alloc (.cells (List.replicate 32 (Value.int .u8 0)).toArray 22))) := hid ((Below.refl _ _).alloc (by rw [S1]; exact Nat.le_refl _) _)
  rw [hW1] at F0 F1
  go_enter Tryd.func41, Tryd.ntmps41
  go_wp2_with (first | (refine wpList_y (S := fun _ => True) (y_build rfl _ rfl nine O HO (by kernel_rfl)) trivial ?_) | (refine store_arr rfl _ _ rfl (w.heap.size + 1 + 1) nine O _ rfl rfl F0 HO (w.heap.size + 1 + 1) _ (hid ⟨F1.out, Nat.le_refl _⟩) ?_; intro w2 AR2 BL2))
  rw [← hW1] at BL2
  have z0 : w2.heap[w.heap.size + 1]? = some (.cells (List.replicate 32 (Value.int .u8 0)).toArray 22 (0, 0)) := (BL2.out.block _ (by omega)).trans A1
  have z1 : Arr w2 w.heap.size f := (BL2.out.block _ (by omega)).trans B1
  have z2 : Below w.heap.size w w2 := L1.trans (BL2.out.mono (by omega))
  have z3 : One5 w2 := H1.out.1.below z2
  have z4 : w2.heap.size ≥ w.heap.size + 1 + 1 + 1 := AR2.out.size
  clear hW1 hsz A0 A1 B1 L1 S1 F0 F1 BL2 W1
  go_still_tail 3, (by kernel_rfl)
  change wpList _ _ _ _ _ (World.drew _)
  have d : Below w2.heap.size w2 w2.drew := (Below.refl _ _).drew
  generalize w2.drew = Z at *
  have Q : Hid (Z.heap[w.heap.size + 1]? = some (.cells (List.replicate 32 (Value.int .u8 0)).toArray 22 (0, 0)) ∧ Bytes Z w.heap.size 0 32 f ∧ Bytes Z (w.heap.size + 1 + 1) 0 32 nine ∧ One5 Z ∧ Below w.heap.size w Z) :=
    hid ⟨(d.block _ (by omega)).trans z0, (z1.below d (by omega)).bytes, (AR2.out.below d (by omega)).bytes, z3.below d, z2.trans (d.mono z2.size)⟩
  clear z0 z1 z2 z3 z4 d AR2
  go_wp2_with fail
  refine (ladder_any (w.heap.size + 1) w.heap.size 0 (w.heap.size + 1 + 1) 0 32 32 f nine _ _ Q.out.1 (by simp) Q.out.2.1 H1.out.2 Q.out.2.2.1 nine_byt Q.out.2.2.2.1 (by decide)).mono ?_
  rintro e w1 ⟨rfl, harr, hb⟩
  have AR : Hid (Arr w1 (w.heap.size + 1) (lad f nine)) := hid harr
  have BL : Hid (Below w.heap.size w w1) := hid (Q.out.2.2.2.2.trans (hb.mono (by omega)))
  clear harr hb
  obtain ⟨O2, hO⟩ : ∃ O2, O2 = (bvals (lad f nine)).toArray := ⟨_, rfl⟩
  have HO2 : Hid (O2 = (bvals (lad f nine)).toArray) := hid hO
  clear hO
  go_wp2_with (first | (refine load_arr rfl _ rfl (w.heap.size + 1) _ O2 rfl AR HO2 ?_) | (refine store_arr rfl _ _ rfl (w.heap.size + 1) (lad f nine) O2 _ rfl rfl (hid AR.out.old) HO2 w.heap.size w (hid ⟨BL.out, by omega⟩) ?_; intro w2 AR2 BL2))
  exact ret_arr (p := 2) rfl rfl AR2.out rfl ⟨_, rfl, hid rfl, BL2⟩

theorem two_new (f : Nat → Int) (X : Array Value) (hX : Hid (X = (bvals f).toArray)) (w : World) (cur : List Value) (hc : cur.length = 32) :
    Hid (Arr ((w.alloc (.cells X 22)).alloc (.cells cur.toArray 22)) w.heap.size f) ∧ Hid (((w.alloc (.cells X 22)).alloc (.cells cur.toArray 22)).heap[w.heap.size + 1]? = some (.cells cur.toArray 22 (0, 0)) ∧ cur.toArray.size = 32) ∧
      Hid (Below w.heap.size w ((w.alloc (.cells X 22)).alloc (.cells cur.toArray 22))) ∧ Hid (((w.alloc (.cells X 22)).alloc (.cells cur.toArray 22)).heap.size = w.heap.size + 1 + 1) := by
  have hsz : (w.alloc (.cells X 22)).heap.size = w.heap.size + 1 := by simp
  have A0 : Arr (w.alloc (.cells X 22)) w.heap.size f := by rw [hX.out]; exact heap_alloc_new w _
  refine ⟨hid ((Below.heap_alloc _ _ _ (by rw [hsz]; omega)).trans A0), hid ⟨?_, by simp [hc]⟩, hid (((Below.refl _ _).alloc (Nat.le_refl _) _).alloc (by simp) _), hid (by simp)⟩
  rw [← hsz]; exact heap_alloc_new (w.alloc (.cells X 22)) _

theorem two_after {w W w1 : World} {old : Array Value} {n : Nat} (h2 : Hid (W.heap[n + 1]? = some (.cells old 22 (0, 0)) ∧ old.size = 32)) (h3 : Hid (Below w.heap.size w W)) (h4 : Hid (W.heap.size = n + 1 + 1)) (hb : Hid (Below W.heap.size W w1)) :
    Hid ((w1.heap[n + 1]? = some (.cells old 22 (0, 0)) ∧ old.size = 32) ∧ Below w.heap.size w w1) :=
  hid ⟨⟨(hb.out.block _ (by rw [h4.out]; omega)).trans h2.out.1, h2.out.2⟩, h3.out.trans (hb.out.mono h3.out.size)⟩

set_option maxRecDepth 100000 in
set_option maxHeartbeats 1000000 in
theorem implPub_any (f : Nat → Int) (hf : Byt f) (X : Array Value) (hX : Hid (X = (bvals f).toArray)) (w : World) (h1 : One5 w) :
    Calls Tryd.prog 20 #[.agg X] w (RetArr w (lad f nine)) := by
  have H1 : Hid (One5 w ∧ Byt f) := hid ⟨h1, hf⟩
  clear h1 hf
  go_enter Tryd.func20, Tryd.ntmps20
  obtain ⟨F0, F2, F3, F4⟩ := two_new f X hX w (List.replicate 32 (.int .u8 0)) (by simp)
  go_wp2_with (first | (refine load_arr rfl _ rfl w.heap.size f X rfl F0 hX ?_) | (go_at_call 41; refine (zzPub_any f H1.out.2 X hX _ (H1.out.1.below F3.out)).mono ?_; rintro e w1 ⟨O, rfl, hO, hb⟩; have F5 := two_after F2 F3 F4 hb; clear hb) | (refine store_arr rfl _ _ rfl (w.heap.size + 1) (lad f nine) O _ rfl rfl (hid F5.out.1) hO w.heap.size w (hid ⟨F5.out.2, by omega⟩) ?_; intro w2 AR2 BL2))
  exact ret_arr (p := 2) rfl rfl AR2.out rfl ⟨_, rfl, hid rfl, BL2⟩
end Go.Proofs.YtflmkgecgijncaaDoor
