import Derived.Test.YtflmkgecgijncaaDoorF17
namespace Go.Proofs.YtflmkgecgijncaaDoor
open Go.RowKit Go.Shelf

/-- The 32 bytes f as an array's value. -/
def av (f : Nat → Int) : Value := .agg (bvals f).toArray

theorem info22 : (Tryd.prog.info? 22).map (·.size) = some 32 := by kernel_rfl

theorem one_bvals (f : Nat → Int) : (bvals f).toArray.all (·.oneCell') = true := by
  rw [Array.all_eq_true_iff_forall_mem]
  intro v hv
  have hv : v ∈ bvals f := by simpa using hv
  unfold bvals at hv
  obtain ⟨j, _, rfl⟩ := List.mem_map.1 hv; rfl

/-- An array of 32 bytes is read out of its block. -/
theorem load_arr {ops : Array Oper} {rest : List Oper} {o : Oper} {a : Act} {w : World} {Q : Exit → Act → World → Prop} (hgd : o.guard = none) (x : Operand) (ho : o.op = .load 22 x)
    (g : Nat) (f : Nat → Int) (X : Array Value) (hx : a.eval x = .pointer (some ⟨g, 0, none⟩)) (hg : Hid (Arr w g f)) (hX : Hid (X = (bvals f).toArray))
    (h : wpList Tryd.prog ops Q rest (a.put o.dst (.agg X)) w) : wpList Tryd.prog ops Q (o :: rest) a w := by
  refine wpList_load_row hgd 22 x ho g hx 22 X (0, 0) _ (by rw [hX.out]; exact hg.out) Tryd.underlying22 rfl (by rw [hX.out, info22]; simp [bvals_len]) h

/-- An array of 32 bytes is laid into a block of as many. -/
theorem store_arr {ops : Array Oper} {rest : List Oper} {o : Oper} {a : Act} {w : World} {Q : Exit → Act → World → Prop} (hgd : o.guard = none) (x y : Operand) (ho : o.op = .store 22 x y)
    (g : Nat) (f : Nat → Int) (X old : Array Value) (hx : a.eval x = .pointer (some ⟨g, 0, none⟩)) (hy : a.eval y = .agg X) (hg : Hid (w.heap[g]? = some (.cells old 22 (0, 0)) ∧ old.size = 32)) (hX : Hid (X = (bvals f).toArray)) (B : Nat) (w0 : World) (hb : Hid (Below B w0 w ∧ B ≤ g))
    (h : ∀ w', Hid (Arr w' g f) → Hid (Below B w0 w') → wpList Tryd.prog ops Q rest (a.put o.dst undef) w') : wpList Tryd.prog ops Q (o :: rest) a w := by
  have hX' := hX.out
  subst hX'
  refine wpList_store_row hgd 22 x y ho g _ hx hy 22 old hg.out.1 (by rw [info22]; simp [bvals_len]) (by rw [hg.out.2]; simp [bvals_len]) (one_bvals f) ?_
  exact h _ (hid (setRow_heap w g old _ 22 (0, 0) hg.out.1)) (hid (below_setRow hb.out.1 hb.out.2 _))

theorem Arr.size {w : World} {b : Nat} {f : Nat → Int} (h : Arr w b f) : b < w.heap.size := by
  rcases Nat.lt_or_ge b w.heap.size with h' | h'
  · exact h'
  · unfold Arr at h; rw [Array.getElem?_eq_none h'] at h; exact absurd h (by simp)
theorem Arr.below {w w' : World} {B b : Nat} {f : Nat → Int} (h : Arr w b f) (hb : Below B w w') (hB : b < B) : Arr w' b f := (hb.block b hB).trans h
theorem Arr.old {w : World} {b : Nat} {f : Nat → Int} (h : Arr w b f) : w.heap[b]? = some (.cells (bvals f).toArray 22 (0, 0)) ∧ (bvals f).toArray.size = 32 := ⟨h, by simp [bvals_len]⟩

/-- The call returned 32 bytes; what was there is as it was. -/
def RetArr (w : World) (f : Nat → Int) (e : Ending) (w' : World) : Prop := ∃ O : Array Value, e = .returned (.agg O) ∧ Hid (O = (bvals f).toArray) ∧ Hid (Below w.heap.size w w')

theorem ret_arr {fn : Func} {p : Tmp} {g : Nat} {f : Nat → Int} {R : Ending → World → Prop} {a : Act} {w : World} (h : fn.results = #[.cell p 22]) (hp : a.tmps.getD p undef = .pointer (some ⟨g, 0, none⟩)) (hg : Arr w g f)
    (hd : a.defers = []) (hR : R (.returned (av f)) w) : bodyPost Tryd.prog fn R .ret a w :=
  bodyPost_ret (results_cell_row h a.tmps w g 22 _ (0, 0) _ hp hg Tryd.underlying22 rfl (by rw [info22]; simp [bvals_len])) hd hR

/-- Two arrays are laid into new blocks. -/
theorem two_arr (f g : Nat → Int) (X Y : Array Value) (hX : Hid (X = (bvals f).toArray)) (hY : Hid (Y = (bvals g).toArray)) (w : World) :
    ∃ W, W = (w.alloc (.cells X 22)).alloc (.cells Y 22) ∧ W.heap.size = w.heap.size + 1 + 1 ∧ Below w.heap.size w W ∧ Arr W w.heap.size f ∧ Arr W (w.heap.size + 1) g := by
  have hsz : (w.alloc (.cells X 22)).heap.size = w.heap.size + 1 := by simp
  have A0 : Arr (w.alloc (.cells X 22)) w.heap.size f := by rw [hX.out]; exact heap_alloc_new w _
  refine ⟨_, rfl, by simp, ((Below.refl _ _).alloc (Nat.le_refl _) _).alloc (by simp) _, (Below.heap_alloc _ _ _ (by rw [hsz]; omega)).trans A0, ?_⟩
  rw [hY.out, ← hsz]; exact heap_alloc_new (w.alloc (.cells X 22)) _

/-- Two arrays and a new one. -/
theorem three_arr (f g : Nat → Int) (X Y : Array Value) (hX : Hid (X = (bvals f).toArray)) (hY : Hid (Y = (bvals g).toArray)) (w : World) (cur : List Value) (hc : cur.length = 32) :
    Hid (Arr (((w.alloc (.cells X 22)).alloc (.cells Y 22)).alloc (.cells cur.toArray 22)) w.heap.size f) ∧ Hid (Arr (((w.alloc (.cells X 22)).alloc (.cells Y 22)).alloc (.cells cur.toArray 22)) (w.heap.size + 1) g) ∧
      Hid ((((w.alloc (.cells X 22)).alloc (.cells Y 22)).alloc (.cells cur.toArray 22)).heap[w.heap.size + 1 + 1]? = some (.cells cur.toArray 22 (0, 0)) ∧ cur.toArray.size = 32) ∧
      Hid (Below w.heap.size w (((w.alloc (.cells X 22)).alloc (.cells Y 22)).alloc (.cells cur.toArray 22))) ∧ Hid ((((w.alloc (.cells X 22)).alloc (.cells Y 22)).alloc (.cells cur.toArray 22)).heap.size = w.heap.size + 1 + 1 + 1) := by
  obtain ⟨W, hn, hs, hbl, A0, A1⟩ := two_arr f g X Y hX hY w
  rw [← hn]
  refine ⟨hid ((Below.heap_alloc _ _ _ (by omega)).trans A0), hid ((Below.heap_alloc _ _ _ (by omega)).trans A1), hid ⟨?_, by simp [hc]⟩, hid (hbl.alloc (by omega) _), hid (by simp [hs])⟩
  rw [← hs]; exact heap_alloc_new W _

theorem three_after {w W w1 : World} {old : Array Value} {n : Nat} (h2 : Hid (W.heap[n + 1 + 1]? = some (.cells old 22 (0, 0)) ∧ old.size = 32)) (h3 : Hid (Below w.heap.size w W)) (h4 : Hid (W.heap.size = n + 1 + 1 + 1)) (hb : Hid (Below W.heap.size W w1)) :
    Hid ((w1.heap[n + 1 + 1]? = some (.cells old 22 (0, 0)) ∧ old.size = 32) ∧ Below w.heap.size w w1) :=
  hid ⟨⟨(hb.out.block _ (by rw [h4.out]; omega)).trans h2.out.1, h2.out.2⟩, h3.out.trans (hb.out.mono h3.out.size)⟩

/-- The number of the first coordinate's bytes, without the highest bit. -/
def unum (g : Nat → Int) : Int := leN g 32 0 % 57896044618658097711785492504343953926634992332820282019728792003956564819968

/-- The bytes that the ladder tells. -/
def lad (f g : Nat → Int) : Nat → Int := byteOf (pout (unum g) (kb f) % pI)

set_option maxRecDepth 100000 in
set_option maxHeartbeats 1000000 in
theorem zzMult_any (f g : Nat → Int) (hf : Byt f) (hg : Byt g) (X Y : Array Value) (hX : Hid (X = (bvals f).toArray)) (hY : Hid (Y = (bvals g).toArray)) (w : World) (h1 : One5 w) :
    Calls Tryd.prog 27 #[.agg X, .agg Y] w (RetArr w (lad f g)) := by
  have H1 : Hid (One5 w ∧ Byt f ∧ Byt g) := hid ⟨h1, hf, hg⟩
  clear h1 hf hg
  go_enter Tryd.func27, Tryd.ntmps27
  go_wp2_with fail
  have hsz : (w.alloc (.cells X 22)).heap.size = w.heap.size + 1 := by simp
  have A0 : Arr (w.alloc (.cells X 22)) w.heap.size f := by rw [hX.out]; exact heap_alloc_new w _
  have A1 : Arr ((w.alloc (.cells X 22)).alloc (.cells Y 22)) (w.heap.size + 1) g := by
    rw [hY.out, ← hsz]; exact heap_alloc_new (w.alloc (.cells X 22)) _
  have A2 : Arr ((w.alloc (.cells X 22)).alloc (.cells Y 22)) w.heap.size f := (Below.heap_alloc _ _ _ (by rw [hsz]; omega)).trans A0
  obtain ⟨W, hW⟩ : ∃ W, W = (w.alloc (.cells X 22)).alloc (.cells Y 22) := ⟨_, rfl⟩
  rw [← hW] at A1 A2 ⊢
  have hbl : Below w.heap.size w W := by rw [hW]; exact ((Below.refl _ _).alloc (Nat.le_refl _) _).alloc (by simp) _
  have hs2 : W.heap.size = w.heap.size + 1 + 1 := by rw [hW]; simp
  clear hW A0 hsz
  go_still_tail 3, (by kernel_rfl)
  change wpList _ _ _ _ _ (World.drew _)
  generalize hZ : World.drew _ = Z
  have z0 : Z.heap[w.heap.size + 1 + 1]? = some (.cells (List.replicate 32 (.int .u8 0)).toArray 22 (0, 0)) := by rw [← hZ, ← hs2]; exact heap_alloc_new W _
  have z1 : Below W.heap.size W Z := by rw [← hZ]; exact ((Below.refl _ _).alloc (Nat.le_refl _) _).drew
  have z2 : Bytes Z w.heap.size 0 32 f := (A2.below z1 (by omega)).bytes
  have z3 : Bytes Z (w.heap.size + 1) 0 32 g := (A1.below z1 (by omega)).bytes
  have z4 : One5 Z := H1.out.1.below (hbl.trans (z1.mono (by omega)))
  have z5 : Below w.heap.size w Z := hbl.trans (z1.mono (by omega))
  have Q : Hid (Z.heap[w.heap.size + 1 + 1]? = some (.cells (List.replicate 32 (.int .u8 0)).toArray 22 (0, 0)) ∧ Bytes Z w.heap.size 0 32 f ∧ Bytes Z (w.heap.size + 1) 0 32 g ∧ One5 Z ∧ Below w.heap.size w Z) := hid ⟨z0, z2, z3, z4, z5⟩
  clear hZ z0 z1 z2 z3 z4 z5 A1 A2 hbl hs2
  go_wp2_with fail
  refine (ladder_any (w.heap.size + 1 + 1) w.heap.size 0 (w.heap.size + 1) 0 32 32 f g _ _ Q.out.1 (by simp) Q.out.2.1 H1.out.2.1 Q.out.2.2.1 H1.out.2.2 Q.out.2.2.2.1 (by decide)).mono ?_
  rintro e w1 ⟨rfl, harr, hb⟩
  have AR : Hid (Arr w1 (w.heap.size + 1 + 1) (lad f g)) := hid harr
  have BL : Hid (Below w.heap.size w w1) := hid (Q.out.2.2.2.2.trans (hb.mono (by omega)))
  clear harr hb
  obtain ⟨O, hO⟩ : ∃ O, O = (bvals (lad f g)).toArray := ⟨_, rfl⟩
  have HO : Hid (O = (bvals (lad f g)).toArray) := hid hO
  clear hO
  go_wp2_with (first | (refine load_arr rfl _ rfl (w.heap.size + 1 + 1) _ O rfl AR HO ?_) | (refine store_arr rfl _ _ rfl (w.heap.size + 1 + 1) (lad f g) O _ rfl rfl (hid AR.out.old) HO w.heap.size w (hid ⟨BL.out, by omega⟩) ?_; intro w2 AR2 BL2))
  exact ret_arr (p := 4) rfl rfl AR2.out rfl ⟨_, rfl, hid rfl, BL2⟩

set_option maxRecDepth 100000 in
set_option maxHeartbeats 1000000 in
theorem implMult_any (f g : Nat → Int) (hf : Byt f) (hg : Byt g) (X Y : Array Value) (hX : Hid (X = (bvals f).toArray)) (hY : Hid (Y = (bvals g).toArray)) (w : World) (h1 : One5 w) :
    Calls Tryd.prog 16 #[.agg X, .agg Y] w (RetArr w (lad f g)) := by
  have H1 : Hid (One5 w ∧ Byt f ∧ Byt g) := hid ⟨h1, hf, hg⟩
  clear h1 hf hg
  go_enter Tryd.func16, Tryd.ntmps16
  obtain ⟨F0, F1, F2, F3, F4⟩ := three_arr f g X Y hX hY w (List.replicate 32 (.int .u8 0)) (by simp)
  go_wp2_with (first | (refine load_arr rfl _ rfl w.heap.size f X rfl F0 hX ?_) | (refine load_arr rfl _ rfl (w.heap.size + 1) g Y rfl F1 hY ?_) | (go_at_call 27; refine (zzMult_any f g H1.out.2.1 H1.out.2.2 X Y hX hY _ (H1.out.1.below F3.out)).mono ?_; rintro e w1 ⟨O, rfl, hO, hb⟩; have F5 := three_after F2 F3 F4 hb; clear hb) | (refine store_arr rfl _ _ rfl (w.heap.size + 1 + 1) (lad f g) O _ rfl rfl (hid F5.out.1) hO w.heap.size w (hid ⟨F5.out.2, by omega⟩) ?_; intro w2 AR2 BL2))
  exact ret_arr (p := 4) rfl rfl AR2.out rfl ⟨_, rfl, hid rfl, BL2⟩
end Go.Proofs.YtflmkgecgijncaaDoor
