/-
  Numbers of eight digits in memory: blocks, loads, stores, lists of blocks.
-/
import Derived.Test.YtflmkgecgijncaaDoorS1
import Derived.Test.YtflmkgecgijncaaDoorS2
namespace Go.Proofs.YtflmkgecgijncaaDoor
open Go.RowKit Go.Shelf Mth

/-- The cells of a number. -/
def NV (V : Int) : Array Value := (nvals 8 (dg V)).toArray
/-- The cells of an element. -/
def FV (a : Fp) : Array Value := NV (a.val : Int)
/-- n digits of type t in a block. -/
def dob (t n : Nat) (f : Nat → Int) : Obj := .cells (nvals n f).toArray t (0, 0)
/-- A number in a block. -/
def nob (V : Int) : Obj := .cells (NV V) 43 (0, 0)
/-- An element in a block. -/
def fob (a : Fp) : Obj := .cells (FV a) 43 (0, 0)
/-- 32 bytes in a block. -/
def aob (f : Nat → Int) : Obj := .cells (bvals f).toArray 22 (0, 0)

theorem NV_size (V : Int) : (NV V).size = 8 := by unfold NV; rw [List.size_toArray, nvals_len]
theorem info43 : (Tryd.prog.info? 43).map (·.size) = some 8 := by kernel_rfl
theorem zero8 : (List.replicate 8 (Value.int .u64 0)).toArray = NV 0 := by kernel_rfl
theorem zero8d : (List.replicate 8 (Value.int .u64 0)).toArray = (nvals 8 fun _ => 0).toArray := by kernel_rfl
theorem zero16d : (List.replicate 16 (Value.int .u64 0)).toArray = (nvals 16 fun _ => 0).toArray := by kernel_rfl
theorem one_nvals (n : Nat) (f : Nat → Int) : (nvals n f).toArray.all (·.oneCell') = true := by
  rw [Array.all_eq_true_iff_forall_mem]
  intro v hv
  have hv : v ∈ nvals n f := by simpa using hv
  unfold nvals at hv
  obtain ⟨j, _, rfl⟩ := List.mem_map.1 hv; rfl
theorem NV_one (V : Int) : (NV V).all (·.oneCell') = true := one_nvals 8 _

/-- Above B there are these blocks; below it all is as it was in w0. -/
structure Sto (w0 W : World) (B : Nat) (Bs : List (Nat × Obj)) : Prop where
  below : Below B w0 W
  size : B ≤ w0.heap.size
  lt : ∀ t ∈ Bs, B ≤ t.1
  heap : ∀ t ∈ Bs, W.heap[t.1]? = some t.2
  ne : Bs.Pairwise (fun a b => b.1 ≠ a.1)

theorem Sto.start (w : World) : Sto w w w.heap.size [] := ⟨Below.refl _ _, Nat.le_refl _, by simp, by simp, List.Pairwise.nil⟩

section
variable {w0 W W2 : World} {B : Nat} {Bs : List (Nat × Obj)}

theorem Sto.inside (h : Sto w0 W B Bs) {b : Nat} {ob : Obj} (hm : (b, ob) ∈ Bs) : b < W.heap.size := obj_lt (h.heap _ hm)
theorem Sto.big (h : Sto w0 W B Bs) : B ≤ W.heap.size := Nat.le_trans h.size h.below.size

theorem Sto.call (h : Sto w0 W B Bs) (hb : Below W.heap.size W W2) : Sto w0 W2 B Bs :=
  ⟨h.below.trans (hb.mono h.big), h.size, h.lt, fun t ht => (hb.block _ (obj_lt (h.heap t ht))).trans (h.heap t ht), h.ne⟩

theorem Sto.drew (h : Sto w0 W B Bs) : Sto w0 W.drew B Bs := ⟨h.below.drew, h.size, h.lt, h.heap, h.ne⟩

theorem Sto.drewN (h : Sto w0 W B Bs) (n : Nat) : Sto w0 (W.drewN n) B Bs := ⟨⟨h.below.os, h.below.tape, h.below.output, h.below.size, h.below.block⟩, h.size, h.lt, h.heap, h.ne⟩

/-- A new block. -/
theorem Sto.new (h : Sto w0 W B Bs) (hb : Below W.heap.size W W2) {b : Nat} {ob : Obj} (h1 : W.heap.size ≤ b) (h2 : W2.heap[b]? = some ob) : Sto w0 W2 B ((b, ob) :: Bs) := by
  have h' := h.call hb
  refine ⟨h'.below, h.size, ?_, ?_, List.Pairwise.cons (fun t ht => ?_) h.ne⟩
  · intro t ht
    rcases List.mem_cons.1 ht with rfl | ht
    · exact Nat.le_trans h.big h1
    · exact h.lt t ht
  · intro t ht
    rcases List.mem_cons.1 ht with rfl | ht
    · exact h2
    · exact h'.heap t ht
  · have := obj_lt (h.heap t ht); omega
/-- Two new blocks. -/
theorem Sto.new2 (h : Sto w0 W B Bs) (hb : Below W.heap.size W W2) {b c : Nat} {ob oc : Obj} (h1 : W.heap.size ≤ b) (h2 : W2.heap[b]? = some ob) (h3 : W.heap.size ≤ c) (h4 : W2.heap[c]? = some oc) (hne : b ≠ c) :
    Sto w0 W2 B ((b, ob) :: (c, oc) :: Bs) := by
  have h' := h.new hb h3 h4
  refine ⟨h'.below, h.size, ?_, ?_, List.Pairwise.cons (fun t ht => ?_) h'.ne⟩
  · intro t ht
    rcases List.mem_cons.1 ht with rfl | ht
    · exact Nat.le_trans h.big h1
    · exact h'.lt t ht
  · intro t ht
    rcases List.mem_cons.1 ht with rfl | ht
    · exact h2
    · exact h'.heap t ht
  · rcases List.mem_cons.1 ht with rfl | ht
    · exact Ne.symm hne
    · have := obj_lt (h.heap t ht); omega

theorem Sto.alloc (h : Sto w0 W B Bs) (cs : Array Value) (t : TypeId) : Sto w0 (W.alloc (.cells cs t)) B ((W.heap.size, .cells cs t (0, 0)) :: Bs) :=
  h.new ((Below.refl _ _).alloc (Nat.le_refl _) _) (Nat.le_refl _) (heap_alloc_new W _)

/-- A block of the list has another object. -/
theorem Sto.turn (l1 : List (Nat × Obj)) {b : Nat} {ob ob' : Obj} {l2 : List (Nat × Obj)} (h : Sto w0 W B (l1 ++ (b, ob) :: l2)) (hb : Below b W W2) (h1 : W2.heap[b]? = some ob') (h2 : ∀ k, k ≠ b → W2.heap[k]? = W.heap[k]?) :
    Sto w0 W2 B (l1 ++ (b, ob') :: l2) := by
  have hB : B ≤ b := h.lt (b, ob) (by simp)
  have hne := h.ne
  rw [List.pairwise_append] at hne
  obtain ⟨n1, n2, n3⟩ := hne
  have n2' := List.pairwise_cons.1 n2
  have k1 : ∀ t ∈ l1, t.1 ≠ b := fun t ht => Ne.symm (n3 t ht (b, ob) (by simp))
  have k2 : ∀ t ∈ l2, t.1 ≠ b := fun t ht => n2'.1 t ht
  refine ⟨h.below.trans (hb.mono hB), h.size, ?_, ?_, ?_⟩
  · intro t ht
    rcases List.mem_append.1 ht with r | r
    · exact h.lt t (by simp [r])
    · rcases List.mem_cons.1 r with rfl | r
      · exact hB
      · exact h.lt t (by simp [r])
  · intro t ht
    rcases List.mem_append.1 ht with r | r
    · rw [h2 _ (k1 t r)]; exact h.heap t (by simp [r])
    · rcases List.mem_cons.1 r with rfl | r
      · exact h1
      · rw [h2 _ (k2 t r)]; exact h.heap t (by simp [r])
  · rw [List.pairwise_append]
    refine ⟨n1, List.pairwise_cons.2 ⟨fun t ht => n2'.1 t ht, n2'.2⟩, fun t ht s hs => ?_⟩
    rcases List.mem_cons.1 hs with rfl | r
    · exact Ne.symm (k1 t ht)
    · exact n3 t ht s (by simp [r])

theorem Sto.mid (l1 : List (Nat × Obj)) {b : Nat} {ob : Obj} {l2 : List (Nat × Obj)} (h : Sto w0 W B (l1 ++ (b, ob) :: l2)) : W.heap[b]? = some ob := h.heap (b, ob) (List.mem_append.2 (Or.inr (List.mem_cons_self ..)))

theorem Sto.row (l1 : List (Nat × Obj)) {b : Nat} {cs cs' : Array Value} {t : TypeId} {l2 : List (Nat × Obj)} (h : Sto w0 W B (l1 ++ (b, .cells cs t (0, 0)) :: l2)) : Sto w0 (W.setRow b cs') B (l1 ++ (b, .cells cs' t (0, 0)) :: l2) :=
  h.turn l1 (below_setRow (Below.refl b W) (Nat.le_refl b) _) (setRow_heap W b cs cs' t (0, 0) (h.mid l1)) (fun k hk => setRow_other W b k cs' hk)

theorem dob_set {w : World} {b t n : Nat} {f : Nat → Int} (h : w.heap[b]? = some (dob t n f)) (i : Nat) (z : Int) : (w.setCell ⟨b, i, none⟩ (.int .u64 z)).heap[b]? = some (dob t n (upd f i z)) := by
  unfold dob at *
  simp only [World.setCell, Array.getElem?_modify, h, if_true, Option.map_some, ← nvals_upd]
  rfl
theorem dob_cell {w : World} {b t n : Nat} {f : Nat → Int} (h : w.heap[b]? = some (dob t n f)) {j : Nat} (hj : j < n) : w.cell? ⟨b, j, none⟩ = some (.int .u64 (f j)) := by
  unfold World.cell? dob at *
  rw [h]
  simp [nvals_get f j hj]
theorem dob_frozen {w : World} {b t n : Nat} {f : Nat → Int} (h : w.heap[b]? = some (dob t n f)) (j : Nat) : w.frozen? ⟨b, j, none⟩ = false := by
  unfold World.frozen? dob at *
  rw [h]
  simp
theorem Sto.cell (l1 : List (Nat × Obj)) {b t n : Nat} {f : Nat → Int} {l2 : List (Nat × Obj)} (h : Sto w0 W B (l1 ++ (b, dob t n f) :: l2)) (i : Nat) (z : Int) : Sto w0 (W.setCell ⟨b, i, none⟩ (.int .u64 z)) B (l1 ++ (b, dob t n (upd f i z)) :: l2) :=
  h.turn l1 ((Below.refl b W).setCell (Nat.le_refl b) _) (dob_set (h.mid l1) i z) (fun _ hk => Below.heap_setCell _ _ _ _ hk)

theorem Sto.sub (l1 : List (Nat × Obj)) {l2 : List (Nat × Obj)} (h : Sto w0 W B (l1 ++ l2)) : Sto w0 W B l2 :=
  ⟨h.below, h.size, fun t ht => h.lt t (by simp [ht]), fun t ht => h.heap t (by simp [ht]), (List.pairwise_append.1 h.ne).2.1⟩
end

theorem dob_num {f : Nat → Int} {V : Int} (hd : Dig f) (hV : nd f 8 = V) : dob 43 8 f = nob V := by
  unfold dob nob NV; rw [nvals_dg hd hV]

theorem dob_new : Obj.cells (List.replicate 8 (Value.int .u64 0)).toArray 43 (0, 0) = nob 0 := by unfold nob; rw [zero8]

/-- A number is read out of its block. -/
theorem load_n {ops : Array Oper} {rest : List Oper} {o : Oper} {a : Act} {w : World} {Q : Exit → Act → World → Prop} (hgd : o.guard = none) (x : Operand) (ho : o.op = .load 43 x)
    (g : Nat) (V : Int) (hx : a.eval x = .pointer (some ⟨g, 0, none⟩)) (hg : w.heap[g]? = some (nob V))
    (h : wpList Tryd.prog ops Q rest (a.put o.dst (.agg (NV V))) w) : wpList Tryd.prog ops Q (o :: rest) a w := by
  refine wpList_load_row hgd 43 x ho g hx 43 (NV V) (0, 0) _ hg Tryd.underlying43 rfl (by rw [info43, NV_size]) h

/-- A number is laid into its block. -/
theorem store_n {ops : Array Oper} {rest : List Oper} {o : Oper} {a : Act} {w : World} {Q : Exit → Act → World → Prop} (hgd : o.guard = none) (x y : Operand) (ho : o.op = .store 43 x y)
    (g : Nat) (V : Int) (hx : a.eval x = .pointer (some ⟨g, 0, none⟩)) (hy : a.eval y = .agg (NV V)) {w0 : World} {B : Nat} (l1 : List (Nat × Obj)) {U : Int} {l2 : List (Nat × Obj)} (hg : Sto w0 w B (l1 ++ (g, nob U) :: l2))
    (h : ∀ w', Hid (Sto w0 w' B (l1 ++ (g, nob V) :: l2)) → wpList Tryd.prog ops Q rest (a.put o.dst undef) w') : wpList Tryd.prog ops Q (o :: rest) a w := by
  refine wpList_store_row hgd 43 x y ho g _ hx hy 43 (NV U) (hg.mid l1) (by rw [info43, NV_size]) (by rw [NV_size, NV_size]) (NV_one V) ?_
  exact h _ (hid (hg.row l1))

theorem y_load_n {ops : Array Oper} {S : World → Prop} {o : Oper} {a : Act} (hw : Region.wanted o (yielded ops a.tmps) = true) (x : Operand) (ho : o.op = .load 43 x) (g : Nat) (V : Int)
    (hx : a.eval x = .pointer (some ⟨g, 0, none⟩)) (hS : ∀ w, S w → w.heap[g]? = some (nob V)) : YieldsIf Tryd.prog ops S o (.agg (NV V)) a := by
  refine Or.inl ⟨hw, fun w h => ?_⟩
  unfold execOp
  simp only [ho, hx, Instr.loadAt, Instr.sureAddr, Sem.run_bind, Sem.run_pure, Result.andThen_ok, run_loadVar_row w g 43 43 (NV V) (0, 0) _ (hS w h) Tryd.underlying43 rfl (by rw [info43, NV_size])]

/-- The call returned a number; what was there is as it was. -/
def RetN (w : World) (V : Int) (e : Ending) (w' : World) : Prop := e = .returned (.agg (NV V)) ∧ Below w.heap.size w w'
/-- The call returned an element; what was there is as it was. -/
def RetF (w : World) (a : Fp) (e : Ending) (w' : World) : Prop := e = .returned (.agg (FV a)) ∧ Below w.heap.size w w'

theorem ret_n {fn : Func} {p : Tmp} {g : Nat} {V : Int} {R : Ending → World → Prop} {a : Act} {w : World} (h : fn.results = #[.cell p 43]) (hp : a.tmps.getD p undef = .pointer (some ⟨g, 0, none⟩)) (hg : w.heap[g]? = some (nob V))
    (hd : a.defers = []) (hR : R (.returned (.agg (NV V))) w) : bodyPost Tryd.prog fn R .ret a w :=
  bodyPost_ret (results_cell_row h a.tmps w g 43 _ (0, 0) _ hp hg Tryd.underlying43 rfl (by rw [info43, NV_size])) hd hR
end Go.Proofs.YtflmkgecgijncaaDoor
