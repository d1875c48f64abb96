/-
  Numbers of eight digits in memory: blocks, loads, stores, lists of blocks.
  spec.small, spec.prime, spec.sum, spec.rest, spec.less.
  spec.rest, spec.less.
  spec.plus, spec.minus, spec.bit.
  The rule of S2, in the form in which it is used; what calls, loads and new blocks give.
-/
import Derived.Test.YtflmkgecgijncaaDoorS1
import Derived.Test.YtflmkgecgijncaaDoorS2
import Derived.IntWalk

namespace Go.Proofs.YtflmkgecgijncaaDoor
open Go.RowKit Go.Shelf Mth

/-- The cells of a number. -/
def NV (V : Int) : Array Value := (nvals 8 (dg V)).toArray
/-- The cells of an element. -/
def FV (a : Fp) : Array Value := NV (a.val : Int)
/-- n digits of type t in a block. -/
def dob (t n : Nat) (f : Nat → Int) : Obj := .cells (nvals n f).toArray t (0, 0)
/-- A number in a block. -/
def nob (V : Int) : Obj := .cells (NV V) 43 (0, 0)
/-- An element in a block. -/
def fob (a : Fp) : Obj := .cells (FV a) 43 (0, 0)
/-- 32 bytes in a block. -/
def aob (f : Nat → Int) : Obj := .cells (bvals f).toArray 22 (0, 0)

theorem NV_size (V : Int) : (NV V).size = 8 := by unfold NV; rw [List.size_toArray, nvals_len]
theorem info43 : (Tryd.prog.info? 43).map (·.size) = some 8 := by kernel_rfl
theorem zero8 : (List.replicate 8 (Value.int .u64 0)).toArray = NV 0 := by kernel_rfl
theorem zero8d : (List.replicate 8 (Value.int .u64 0)).toArray = (nvals 8 fun _ => 0).toArray := by kernel_rfl
theorem zero16d : (List.replicate 16 (Value.int .u64 0)).toArray = (nvals 16 fun _ => 0).toArray := by kernel_rfl
theorem one_nvals (n : Nat) (f : Nat → Int) : (nvals n f).toArray.all (·.oneCell') = true := by
  rw [Array.all_eq_true_iff_forall_mem]
  intro v hv
  have hv : v ∈ nvals n f := by simpa using hv
  unfold nvals at hv
  obtain ⟨j, _, rfl⟩ := List.mem_map.1 hv; rfl
theorem NV_one (V : Int) : (NV V).all (·.oneCell') = true := one_nvals 8 _

/-- Above B there are these blocks; below it all is as it was in w0. -/
structure Sto (w0 W : World) (B : Nat) (Bs : List (Nat × Obj)) : Prop where
  below : Below B w0 W
  size : B ≤ w0.heap.size
  lt : ∀ t ∈ Bs, B ≤ t.1
  heap : ∀ t ∈ Bs, W.heap[t.1]? = some t.2
  ne : Bs.Pairwise (fun a b => b.1 ≠ a.1)

theorem Sto.start (w : World) : Sto w w w.heap.size [] := ⟨Below.refl _ _, Nat.le_refl _, by simp, by simp, List.Pairwise.nil⟩

section
variable {w0 W W2 : World} {B : Nat} {Bs : List (Nat × Obj)}

theorem Sto.inside (h : Sto w0 W B Bs) {b : Nat} {ob : Obj} (hm : (b, ob) ∈ Bs) : b < W.heap.size := obj_lt (h.heap _ hm)
theorem Sto.big (h : Sto w0 W B Bs) : B ≤ W.heap.size := Nat.le_trans h.size h.below.size

theorem Sto.call (h : Sto w0 W B Bs) (hb : Below W.heap.size W W2) : Sto w0 W2 B Bs :=
  ⟨h.below.trans (hb.mono h.big), h.size, h.lt, fun t ht => (hb.block _ (obj_lt (h.heap t ht))).trans (h.heap t ht), h.ne⟩

theorem Sto.drew (h : Sto w0 W B Bs) : Sto w0 W.drew B Bs := ⟨h.below.drew, h.size, h.lt, h.heap, h.ne⟩

theorem Sto.drewN (h : Sto w0 W B Bs) (n : Nat) : Sto w0 (W.drewN n) B Bs := ⟨⟨h.below.os, h.below.tape, h.below.output, h.below.size, h.below.block⟩, h.size, h.lt, h.heap, h.ne⟩

/-- A new block. -/
theorem Sto.new (h : Sto w0 W B Bs) (hb : Below W.heap.size W W2) {b : Nat} {ob : Obj} (h1 : W.heap.size ≤ b) (h2 : W2.heap[b]? = some ob) : Sto w0 W2 B ((b, ob) :: Bs) := by
  have h' := h.call hb
  refine ⟨h'.below, h.size, ?_, ?_, List.Pairwise.cons (fun t ht => ?_) h.ne⟩
  · intro t ht
    rcases List.mem_cons.1 ht with rfl | ht
    · exact Nat.le_trans h.big h1
    · exact h.lt t ht
  · intro t ht
    rcases List.mem_cons.1 ht with rfl | ht
    · exact h2
    · exact h'.heap t ht
  · have := obj_lt (h.heap t ht); omega
/-- Two new blocks. -/
theorem Sto.new2 (h : Sto w0 W B Bs) (hb : Below W.heap.size W W2) {b c : Nat} {ob oc : Obj} (h1 : W.heap.size ≤ b) (h2 : W2.heap[b]? = some ob) (h3 : W.heap.size ≤ c) (h4 : W2.heap[c]? = some oc) (hne : b ≠ c) :
    Sto w0 W2 B ((b, ob) :: (c, oc) :: Bs) := by
  have h' := h.new hb h3 h4
  refine ⟨h'.below, h.size, ?_, ?_, List.Pairwise.cons (fun t ht => ?_) h'.ne⟩
  · intro t ht
    rcases List.mem_cons.1 ht with rfl | ht
    · exact Nat.le_trans h.big h1
    · exact h'.lt t ht
  · intro t ht
    rcases List.mem_cons.1 ht with rfl | ht
    · exact h2
    · exact h'.heap t ht
  · rcases List.mem_cons.1 ht with rfl | ht
    · exact Ne.symm hne
    · have := obj_lt (h.heap t ht); omega

theorem Sto.alloc (h : Sto w0 W B Bs) (cs : Array Value) (t : TypeId) : Sto w0 (W.alloc (.cells cs t)) B ((W.heap.size, .cells cs t (0, 0)) :: Bs) :=
  h.new ((Below.refl _ _).alloc (Nat.le_refl _) _) (Nat.le_refl _) (heap_alloc_new W _)

/-- A block of the list has another object. -/
theorem Sto.turn (l1 : List (Nat × Obj)) {b : Nat} {ob ob' : Obj} {l2 : List (Nat × Obj)} (h : Sto w0 W B (l1 ++ (b, ob) :: l2)) (hb : Below b W W2) (h1 : W2.heap[b]? = some ob') (h2 : ∀ k, k ≠ b → W2.heap[k]? = W.heap[k]?) :
    Sto w0 W2 B (l1 ++ (b, ob') :: l2) := by
  have hB : B ≤ b := h.lt (b, ob) (by simp)
  have hne := h.ne
  rw [List.pairwise_append] at hne
  obtain ⟨n1, n2, n3⟩ := hne
  have n2' := List.pairwise_cons.1 n2
  have k1 : ∀ t ∈ l1, t.1 ≠ b := fun t ht => Ne.symm (n3 t ht (b, ob) (by simp))
  have k2 : ∀ t ∈ l2, t.1 ≠ b := fun t ht => n2'.1 t ht
  refine ⟨h.below.trans (hb.mono hB), h.size, ?_, ?_, ?_⟩
  · intro t ht
    rcases List.mem_append.1 ht with r | r
    · exact h.lt t (by simp [r])
    · rcases List.mem_cons.1 r with rfl | r
      · exact hB
      · exact h.lt t (by simp [r])
  · intro t ht
    rcases List.mem_append.1 ht with r | r
    · rw [h2 _ (k1 t r)]; exact h.heap t (by simp [r])
    · rcases List.mem_cons.1 r with rfl | r
      · exact h1
      · rw [h2 _ (k2 t r)]; exact h.heap t (by simp [r])
  · rw [List.pairwise_append]
    refine ⟨n1, List.pairwise_cons.2 ⟨fun t ht => n2'.1 t ht, n2'.2⟩, fun t ht s hs => ?_⟩
    rcases List.mem_cons.1 hs with rfl | r
    · exact Ne.symm (k1 t ht)
    · exact n3 t ht s (by simp [r])

theorem Sto.mid (l1 : List (Nat × Obj)) {b : Nat} {ob : Obj} {l2 : List (Nat × Obj)} (h : Sto w0 W B (l1 ++ (b, ob) :: l2)) : W.heap[b]? = some ob := h.heap (b, ob) (List.mem_append.2 (Or.inr (List.mem_cons_self ..)))

theorem Sto.row (l1 : List (Nat × Obj)) {b : Nat} {cs cs' : Array Value} {t : TypeId} {l2 : List (Nat × Obj)} (h : Sto w0 W B (l1 ++ (b, .cells cs t (0, 0)) :: l2)) : Sto w0 (W.setRow b cs') B (l1 ++ (b, .cells cs' t (0, 0)) :: l2) :=
  h.turn l1 (below_setRow (Below.refl b W) (Nat.le_refl b) _) (setRow_heap W b cs cs' t (0, 0) (h.mid l1)) (fun k hk => setRow_other W b k cs' hk)

theorem dob_set {w : World} {b t n : Nat} {f : Nat → Int} (h : w.heap[b]? = some (dob t n f)) (i : Nat) (z : Int) : (w.setCell ⟨b, i, none⟩ (.int .u64 z)).heap[b]? = some (dob t n (upd f i z)) := by
  unfold dob at *
  simp only [World.setCell, Array.getElem?_modify, h, if_true, Option.map_some, ← nvals_upd]
  rfl
theorem dob_cell {w : World} {b t n : Nat} {f : Nat → Int} (h : w.heap[b]? = some (dob t n f)) {j : Nat} (hj : j < n) : w.cell? ⟨b, j, none⟩ = some (.int .u64 (f j)) := by
  unfold World.cell? dob at *
  rw [h]
  simp [nvals_get f j hj]
theorem dob_frozen {w : World} {b t n : Nat} {f : Nat → Int} (h : w.heap[b]? = some (dob t n f)) (j : Nat) : w.frozen? ⟨b, j, none⟩ = false := by
  unfold World.frozen? dob at *
  rw [h]
  simp
theorem Sto.cell (l1 : List (Nat × Obj)) {b t n : Nat} {f : Nat → Int} {l2 : List (Nat × Obj)} (h : Sto w0 W B (l1 ++ (b, dob t n f) :: l2)) (i : Nat) (z : Int) : Sto w0 (W.setCell ⟨b, i, none⟩ (.int .u64 z)) B (l1 ++ (b, dob t n (upd f i z)) :: l2) :=
  h.turn l1 ((Below.refl b W).setCell (Nat.le_refl b) _) (dob_set (h.mid l1) i z) (fun _ hk => Below.heap_setCell _ _ _ _ hk)

theorem Sto.sub (l1 : List (Nat × Obj)) {l2 : List (Nat × Obj)} (h : Sto w0 W B (l1 ++ l2)) : Sto w0 W B l2 :=
  ⟨h.below, h.size, fun t ht => h.lt t (by simp [ht]), fun t ht => h.heap t (by simp [ht]), (List.pairwise_append.1 h.ne).2.1⟩
end

theorem dob_num {f : Nat → Int} {V : Int} (hd : Dig f) (hV : nd f 8 = V) : dob 43 8 f = nob V := by
  unfold dob nob NV; rw [nvals_dg hd hV]

theorem dob_new : Obj.cells (List.replicate 8 (Value.int .u64 0)).toArray 43 (0, 0) = nob 0 := by unfold nob; rw [zero8]

/-- A number is read out of its block. -/
theorem load_n {ops : Array Oper} {rest : List Oper} {o : Oper} {a : Act} {w : World} {Q : Exit → Act → World → Prop} (hgd : o.guard = none) (x : Operand) (ho : o.op = .load 43 x)
    (g : Nat) (V : Int) (hx : a.eval x = .pointer (some ⟨g, 0, none⟩)) (hg : w.heap[g]? = some (nob V))
    (h : wpList Tryd.prog ops Q rest (a.put o.dst (.agg (NV V))) w) : wpList Tryd.prog ops Q (o :: rest) a w := by
  refine wpList_load_row hgd 43 x ho g hx 43 (NV V) (0, 0) _ hg Tryd.underlying43 rfl (by rw [info43, NV_size]) h

/-- A number is laid into its block. -/
theorem store_n {ops : Array Oper} {rest : List Oper} {o : Oper} {a : Act} {w : World} {Q : Exit → Act → World → Prop} (hgd : o.guard = none) (x y : Operand) (ho : o.op = .store 43 x y)
    (g : Nat) (V : Int) (hx : a.eval x = .pointer (some ⟨g, 0, none⟩)) (hy : a.eval y = .agg (NV V)) {w0 : World} {B : Nat} (l1 : List (Nat × Obj)) {U : Int} {l2 : List (Nat × Obj)} (hg : Sto w0 w B (l1 ++ (g, nob U) :: l2))
    (h : ∀ w', Hid (Sto w0 w' B (l1 ++ (g, nob V) :: l2)) → wpList Tryd.prog ops Q rest (a.put o.dst undef) w') : wpList Tryd.prog ops Q (o :: rest) a w := by
  refine wpList_store_row hgd 43 x y ho g _ hx hy 43 (NV U) (hg.mid l1) (by rw [info43, NV_size]) (by rw [NV_size, NV_size]) (NV_one V) ?_
  exact h _ (hid (hg.row l1))

theorem y_load_n {ops : Array Oper} {S : World → Prop} {o : Oper} {a : Act} (hw : Region.wanted o (yielded ops a.tmps) = true) (x : Operand) (ho : o.op = .load 43 x) (g : Nat) (V : Int)
    (hx : a.eval x = .pointer (some ⟨g, 0, none⟩)) (hS : ∀ w, S w → w.heap[g]? = some (nob V)) : YieldsIf Tryd.prog ops S o (.agg (NV V)) a := by
  refine Or.inl ⟨hw, fun w h => ?_⟩
  unfold execOp
  simp only [ho, hx, Instr.loadAt, Instr.sureAddr, Sem.run_bind, Sem.run_pure, Result.andThen_ok, run_loadVar_row w g 43 43 (NV V) (0, 0) _ (hS w h) Tryd.underlying43 rfl (by rw [info43, NV_size])]

/-- The call returned a number; what was there is as it was. -/
def RetN (w : World) (V : Int) (e : Ending) (w' : World) : Prop := e = .returned (.agg (NV V)) ∧ Below w.heap.size w w'
/-- The call returned an element; what was there is as it was. -/
def RetF (w : World) (a : Fp) (e : Ending) (w' : World) : Prop := e = .returned (.agg (FV a)) ∧ Below w.heap.size w w'

theorem ret_n {fn : Func} {p : Tmp} {g : Nat} {V : Int} {R : Ending → World → Prop} {a : Act} {w : World} (h : fn.results = #[.cell p 43]) (hp : a.tmps.getD p undef = .pointer (some ⟨g, 0, none⟩)) (hg : w.heap[g]? = some (nob V))
    (hd : a.defers = []) (hR : R (.returned (.agg (NV V))) w) : bodyPost Tryd.prog fn R .ret a w :=
  bodyPost_ret (results_cell_row h a.tmps w g 43 _ (0, 0) _ hp hg Tryd.underlying43 rfl (by rw [info43, NV_size])) hd hR
end Go.Proofs.YtflmkgecgijncaaDoor

namespace Go.Proofs.YtflmkgecgijncaaDoor
open Go.RowKit Go.Shelf Mth

theorem build_n {ops : Array Oper} {rest : List Oper} {o : Oper} {a : Act} {w : World} {Q : Exit → Act → World → Prop} (hgd : o.guard = none) (parts : Array (Nat × Operand)) (ho : o.op = .build 43 parts)
    (V : Int) (l : List (Nat × Value)) (hl : (parts.map fun (i, x) => (i, a.eval x)).toList = l) (hb : Tryd.prog.built 43 l = some (NV V))
    (h : wpList Tryd.prog ops Q rest (a.put o.dst (.agg (NV V))) w) : wpList Tryd.prog ops Q (o :: rest) a w :=
  wpList_build hgd 43 parts ho (by rw [hl, hb]; rfl) (by rw [hl, hb]; exact h)

theorem built_small (n : Int) (h0 : 0 ≤ n) (h1 : n < 4294967296) : Tryd.prog.built 43 [(0, .int .u64 n)] = some (NV n) := by
  have e : Tryd.prog.built 43 [(0, .int .u64 n)] = some #[.int .u64 n, .int .u64 0, .int .u64 0, .int .u64 0, .int .u64 0, .int .u64 0, .int .u64 0, .int .u64 0] := by kernel_rfl
  rw [e]
  have hd : Dig (upd (fun _ => 0) 0 n) := by intro j; unfold upd; dsimp only; split <;> omega
  have hv : nd (upd (fun _ => 0) 0 n) 8 = n := by
    have z : ∀ k, nd (upd (fun _ => 0) 0 n) (k + 1) = n := by
      intro k
      induction k with
      | zero => rw [nd_succ, nd_zero, bp_zero]; unfold upd; simp
      | succ k ih => rw [nd_succ, ih]; unfold upd; simp
    exact z 7
  unfold NV
  rw [← nvals_dg hd hv]; rfl

set_option maxHeartbeats 400000 in
theorem small_any (n : Int) (h0 : 0 ≤ n) (h1 : n < 4294967296) (w : World) : Calls Tryd.prog 31 #[.int .u64 n] w (RetN w n) := by
  have B : Hid (Tryd.prog.built 43 [(0, .int .u64 n)] = some (NV n)) := hid (built_small n h0 h1)
  clear h0 h1
  have S0 := (Sto.start w).alloc (List.replicate 8 (Value.int .u64 0)).toArray 43
  rw [dob_new] at S0
  have H : Hid (Sto w (w.alloc (.cells (List.replicate 8 (Value.int .u64 0)).toArray 43)) w.heap.size [(w.heap.size, nob 0)]) := hid S0
  clear S0
  go_enter Tryd.func31, Tryd.ntmps31
  go_wp2_with (first | (refine build_n rfl _ rfl n _ (by kernel_rfl) B.out ?_) | (refine store_n rfl _ _ rfl w.heap.size n rfl rfl [] H.out ?_; intro w1 H1))
  exact ret_n (p := 2) rfl rfl (H1.out.mid []) rfl ⟨rfl, H1.out.below⟩

theorem built_prime : Tryd.prog.built 43 [(0, .int .u64 4294967277), (1, .int .u64 4294967295), (2, .int .u64 4294967295), (3, .int .u64 4294967295), (4, .int .u64 4294967295), (5, .int .u64 4294967295), (6, .int .u64 4294967295), (7, .int .u64 2147483647)] = some (NV pI) := by kernel_rfl

set_option maxHeartbeats 400000 in
theorem prime_any (w : World) : Calls Tryd.prog 30 #[] w (RetN w pI) := by
  have S0 := (Sto.start w).alloc (List.replicate 8 (Value.int .u64 0)).toArray 43
  rw [dob_new] at S0
  have H : Hid (Sto w (w.alloc (.cells (List.replicate 8 (Value.int .u64 0)).toArray 43)) w.heap.size [(w.heap.size, nob 0)]) := hid S0
  clear S0
  go_enter Tryd.func30, Tryd.ntmps30
  go_wp2_with (first | (refine build_n rfl _ rfl pI _ (by kernel_rfl) built_prime ?_) | (refine store_n rfl _ _ rfl w.heap.size pI rfl rfl [] H.out ?_; intro w1 H1))
  exact ret_n (p := 0) rfl rfl (H1.out.mid []) rfl ⟨rfl, H1.out.below⟩

/-- Three new blocks: two numbers and a result. -/
theorem three_n (A B : Int) (w : World) : Hid (Sto w (((w.alloc (.cells (NV A) 43)).alloc (.cells (NV B) 43)).alloc (.cells (List.replicate 8 (Value.int .u64 0)).toArray 43)) w.heap.size [(w.heap.size + 1 + 1, nob 0), (w.heap.size + 1, nob B), (w.heap.size, nob A)]) := by
  have S0 := (((Sto.start w).alloc (NV A) 43).alloc (NV B) 43).alloc (List.replicate 8 (Value.int .u64 0)).toArray 43
  rw [dob_new] at S0
  have e1 : (w.alloc (.cells (NV A) 43)).heap.size = w.heap.size + 1 := by simp
  have e2 : ((w.alloc (.cells (NV A) 43)).alloc (.cells (NV B) 43)).heap.size = w.heap.size + 1 + 1 := by simp
  rw [e1, e2] at S0
  exact hid S0

theorem nob_dob (A : Int) : nob A = dob 43 8 (dg A) := rfl

/-- A round of a sum. -/
theorem sum_step {f : Nat → Int} {A B : Int} {k : Nat} {q : Int} (hd : Dig f) (q0 : 0 ≤ q) (q1 : q ≤ 1) (h : nd f k + q * bp k = nd (dg A) k + nd (dg B) k) (hr : ∀ j, k ≤ j → f j = dg A j) :
    Dig (upd f k ((q + f k + dg B k) % 4294967296)) ∧ 0 ≤ (q + f k + dg B k) / 4294967296 ∧ (q + f k + dg B k) / 4294967296 ≤ 1 ∧
    nd (upd f k ((q + f k + dg B k) % 4294967296)) (k + 1) + (q + f k + dg B k) / 4294967296 * bp (k + 1) = nd (dg A) (k + 1) + nd (dg B) (k + 1) ∧ ∀ j, k + 1 ≤ j → upd f k ((q + f k + dg B k) % 4294967296) j = dg A j := by
  have e := hr k (Nat.le_refl k)
  have d1 := dg_dig A k
  have d2 := dg_dig B k
  rw [e]
  refine ⟨hd.upd (by omega) (by omega), by omega, by omega, ?_, fun j hj => ?_⟩
  · rw [nd_upd_succ, nd_succ, nd_succ, bp_succ]
    have c := carry_step (q + dg A k + dg B k) 4294967296 rfl
    generalize (q + dg A k + dg B k) / 4294967296 = u at *
    generalize (q + dg A k + dg B k) % 4294967296 = v at *
    generalize dg A k = x at *
    generalize dg B k = y at *
    generalize bp k = p at *
    generalize nd f k = n0 at *
    generalize nd (dg A) k = n1 at *
    generalize nd (dg B) k = n2 at *
    clear d1 d2 e hr hd q0 q1
    have c2 : (q + x + y) * p = (4294967296 * u + v) * p := by rw [c]
    grind
  · unfold upd; rw [if_neg (by omega)]; exact hr j (by omega)

theorem nd8 {A : Int} (h0 : 0 ≤ A) (h1 : A < bp 8) : nd (dg A) 8 = A := by rw [nd_dg, Int.emod_eq_of_lt h0 h1]

set_option maxRecDepth 100000 in
set_option maxHeartbeats 1000000 in
theorem sum_any (A B : Int) (a0 : 0 ≤ A) (b0 : 0 ≤ B) (hs : A + B < bp 8) (w : World) : Calls Tryd.prog 42 #[.agg (NV A), .agg (NV B)] w (RetN w (A + B)) := by
  have AB : Hid (0 ≤ A ∧ 0 ≤ B ∧ A + B < bp 8) := hid ⟨a0, b0, hs⟩
  clear a0 b0 hs
  have H := three_n A B w
  go_enter Tryd.func42, Tryd.ntmps42
  go_wp2_with fail
  go_loopw [5, 6] (fun c i wr => ∃ (k : Nat) (q : Int) (f : Nat → Int), k ≤ 8 ∧ i = .int .i64 k ∧ c = .int .u64 q ∧ 0 ≤ q ∧ q ≤ 1 ∧ Hid (Dig f ∧ nd f k + q * bp k = nd (dg A) k + nd (dg B) k ∧ (∀ j, k ≤ j → f j = dg A j) ∧
      Sto w wr w.heap.size [(w.heap.size + 1 + 1, nob 0), (w.heap.size + 1, nob B), (w.heap.size, dob 43 8 f)])) (fun _ i _ => 8 - (intOf i).toNat)
  case atStart => exact ⟨0, 0, dg A, by omega, rfl, rfl, by omega, by omega, hid ⟨dg_dig A, by show (0 : Int) + 0 * bp 0 = 0 + 0; omega, fun _ _ => rfl, H.out⟩⟩
  case round =>
    obtain ⟨k, q, f, hk, rfl, rfl, q0, q1, I⟩ := hrel
    clear H
    by_cases hlt : k < 8
    · obtain ⟨hd, hn, hr, hS⟩ := I.out
      obtain ⟨s1, s2, s3, s4, s5⟩ := sum_step hd q0 q1 hn hr
      have ca := dob_cell (hS.mid [_, _]) hlt
      have cb := dob_cell (nob_dob B ▸ hS.mid [_]) hlt
      have fa := dob_frozen (hS.mid [_, _]) k
      have da := hd k
      have db := dg_dig B k
      have J := hid (And.intro s1 (And.intro s4 (And.intro s5 hS)))
      generalize hu : f k = u at *
      generalize hv : dg B k = v at *
      have HU := hid hu
      have HV := hid hv
      clear hu hv s1 s4 s5 hS hd hn hr I
      have w1 : IntKind.u64.wrap (q + u) = q + u := by rw [IntKind.wrap_u64]; omega
      have w2 : IntKind.u64.wrap (q + u + v) = q + u + v := by rw [IntKind.wrap_u64]; omega
      go_wp2_with fail
      go_quiet (fail)
      go_wp2_with fail
      go_roundw
      case rel => exact ⟨k + 1, _, _, by omega, by go_num, rfl, s2, s3, hid ⟨J.out.1, J.out.2.1, J.out.2.2.1, (J.out.2.2.2.drewN _).cell [_, _] k _⟩⟩
      case measure => simp [intOf]; omega
    · obtain rfl : k = 8 := by omega
      have E : dob 43 8 f = nob (A + B) := by
        obtain ⟨hd, hn, hr, hS⟩ := I.out
        obtain ⟨a0, b0, hs⟩ := AB.out
        refine dob_num hd ?_
        rw [nd8 a0 (by omega), nd8 b0 (by omega)] at hn
        have := nd_lt hd 8
        rw [bp_eight] at *
        omega
      have HS := hid (E ▸ I.out.2.2.2)
      clear I E
      go_wp2_with (first | (refine load_n rfl _ rfl w.heap.size (A + B) rfl (HS.out.mid [_, _]) ?_) | (refine store_n rfl _ _ rfl (w.heap.size + 1 + 1) (A + B) rfl rfl [] HS.out ?_; intro w1 H1))
      exact ret_n (p := 4) rfl rfl (H1.out.mid []) rfl ⟨rfl, H1.out.below⟩
end Go.Proofs.YtflmkgecgijncaaDoor

namespace Go.Proofs.YtflmkgecgijncaaDoor
open Go.RowKit Go.Shelf Mth

theorem rest_step {f : Nat → Int} {A B : Int} {k : Nat} {q : Int} (hd : Dig f) (q0 : 0 ≤ q) (q1 : q ≤ 1) (h : nd f k - q * bp k = nd (dg A) k - nd (dg B) k) (hr : ∀ j, k ≤ j → f j = dg A j) :
    Dig (upd f k ((4294967296 + f k - dg B k - q) % 4294967296)) ∧ 0 ≤ 1 - (4294967296 + f k - dg B k - q) / 4294967296 ∧ 1 - (4294967296 + f k - dg B k - q) / 4294967296 ≤ 1 ∧
    nd (upd f k ((4294967296 + f k - dg B k - q) % 4294967296)) (k + 1) - (1 - (4294967296 + f k - dg B k - q) / 4294967296) * bp (k + 1) = nd (dg A) (k + 1) - nd (dg B) (k + 1) ∧ ∀ j, k + 1 ≤ j → upd f k ((4294967296 + f k - dg B k - q) % 4294967296) j = dg A j := by
  have e := hr k (Nat.le_refl k)
  have d1 := dg_dig A k
  have d2 := dg_dig B k
  rw [e]
  refine ⟨hd.upd (by omega) (by omega), by omega, by omega, ?_, fun j hj => ?_⟩
  · rw [nd_upd_succ, nd_succ, nd_succ, bp_succ]
    have c := carry_step (4294967296 + dg A k - dg B k - q) 4294967296 rfl
    generalize (4294967296 + dg A k - dg B k - q) / 4294967296 = u at *
    generalize (4294967296 + dg A k - dg B k - q) % 4294967296 = v at *
    generalize dg A k = x at *
    generalize dg B k = y at *
    generalize bp k = p at *
    generalize nd f k = n0 at *
    generalize nd (dg A) k = n1 at *
    generalize nd (dg B) k = n2 at *
    clear d1 d2 e hr hd q0 q1
    have c2 : (4294967296 + x - y - q) * p = (4294967296 * u + v) * p := by rw [c]
    grind
  · unfold upd; rw [if_neg (by omega)]; exact hr j (by omega)

set_option maxRecDepth 100000 in
set_option maxHeartbeats 1000000 in
theorem rest_any (A B : Int) (b0 : 0 ≤ B) (hs : B ≤ A) (a1 : A < bp 8) (w : World) : Calls Tryd.prog 44 #[.agg (NV A), .agg (NV B)] w (RetN w (A - B)) := by
  have AB : Hid (0 ≤ B ∧ B ≤ A ∧ A < bp 8) := hid ⟨b0, hs, a1⟩
  clear b0 hs a1
  have H := three_n A B w
  go_enter Tryd.func44, Tryd.ntmps44
  go_wp2_with fail
  go_loopw [5, 6] (fun c i wr => ∃ (k : Nat) (q : Int) (f : Nat → Int), k ≤ 8 ∧ i = .int .i64 k ∧ c = .int .u64 q ∧ 0 ≤ q ∧ q ≤ 1 ∧ Hid (Dig f ∧ nd f k - q * bp k = nd (dg A) k - nd (dg B) k ∧ (∀ j, k ≤ j → f j = dg A j) ∧
      Sto w wr w.heap.size [(w.heap.size + 1 + 1, nob 0), (w.heap.size + 1, nob B), (w.heap.size, dob 43 8 f)])) (fun _ i _ => 8 - (intOf i).toNat)
  case atStart => exact ⟨0, 0, dg A, by omega, rfl, rfl, by omega, by omega, hid ⟨dg_dig A, by show (0 : Int) - 0 * bp 0 = 0 - 0; omega, fun _ _ => rfl, H.out⟩⟩
  case round =>
    obtain ⟨k, q, f, hk, rfl, rfl, q0, q1, I⟩ := hrel
    clear H
    by_cases hlt : k < 8
    · obtain ⟨hd, hn, hr, hS⟩ := I.out
      obtain ⟨s1, s2, s3, s4, s5⟩ := rest_step hd q0 q1 hn hr
      have ca := dob_cell (hS.mid [_, _]) hlt
      have cb := dob_cell (nob_dob B ▸ hS.mid [_]) hlt
      have fa := dob_frozen (hS.mid [_, _]) k
      have da := hd k
      have db := dg_dig B k
      have J := hid (And.intro s1 (And.intro s4 (And.intro s5 hS)))
      generalize hu : f k = u at *
      generalize hv : dg B k = v at *
      have HU := hid hu
      have HV := hid hv
      clear hu hv s1 s4 s5 hS hd hn hr I
      have w1 : IntKind.u64.wrap (4294967296 + u) = 4294967296 + u := by rw [IntKind.wrap_u64]; omega
      have w2 : IntKind.u64.wrap (4294967296 + u - v) = 4294967296 + u - v := by rw [IntKind.wrap_u64]; omega
      have w3 : IntKind.u64.wrap (4294967296 + u - v - q) = 4294967296 + u - v - q := by rw [IntKind.wrap_u64]; omega
      go_wp2_with fail
      go_quiet (fail)
      go_wp2_with fail
      go_roundw
      case rel => exact ⟨k + 1, _, _, by omega, by go_num, rfl, s2, s3, hid ⟨J.out.1, J.out.2.1, J.out.2.2.1, (J.out.2.2.2.drewN _).cell [_, _] k _⟩⟩
      case measure => simp [intOf]; omega
    · obtain rfl : k = 8 := by omega
      have E : dob 43 8 f = nob (A - B) := by
        obtain ⟨hd, hn, hr, hS⟩ := I.out
        obtain ⟨b0, hs, a1⟩ := AB.out
        refine dob_num hd ?_
        rw [nd8 (by omega) a1, nd8 b0 (by omega)] at hn
        have := nd_lt hd 8
        rw [bp_eight] at *
        omega
      have HS := hid (E ▸ I.out.2.2.2)
      clear I E
      go_wp2_with (first | (refine load_n rfl _ rfl w.heap.size (A - B) rfl (HS.out.mid [_, _]) ?_) | (refine store_n rfl _ _ rfl (w.heap.size + 1 + 1) (A - B) rfl rfl [] HS.out ?_; intro w1 H1))
      exact ret_n (p := 4) rfl rfl (H1.out.mid []) rfl ⟨rfl, H1.out.below⟩

/-- Two new blocks: two numbers. -/
theorem two_n (A B : Int) (w : World) : Hid (Sto w ((w.alloc (.cells (NV A) 43)).alloc (.cells (NV B) 43)) w.heap.size [(w.heap.size + 1, nob B), (w.heap.size, nob A)]) := by
  have S0 := ((Sto.start w).alloc (NV A) 43).alloc (NV B) 43
  have e1 : (w.alloc (.cells (NV A) 43)).heap.size = w.heap.size + 1 := by simp
  rw [e1] at S0
  exact hid S0

theorem div_bp (A : Int) (k : Nat) : A / bp k = 4294967296 * (A / bp (k + 1)) + dg A k := by
  unfold dg
  rw [bp_succ, Int.mul_comm 4294967296 (bp k), ← Int.ediv_ediv_of_nonneg (Int.le_of_lt (bp_pos k))]
  generalize A / bp k = z
  omega
theorem Int.lt_or_ge' (a b : Int) : a < b ∨ b ≤ a := by omega
theorem lt_of_div {A B : Int} {k : Nat} (h : A / bp k < B / bp k) : A < B := by
  rcases Int.lt_or_ge' A B with r | r
  · exact r
  · exact absurd (Int.ediv_le_ediv (bp_pos k) r) (by omega)

theorem less_step {A B : Int} {k : Nat} (h : A / bp (k + 1) = B / bp (k + 1)) (he : dg A k ≠ dg B k) : decide (A < B) = decide (dg A k < dg B k) := by
  have e1 := div_bp A k
  have e2 := div_bp B k
  rw [h] at e1
  rcases Int.lt_or_ge' (dg A k) (dg B k) with r | r
  · have := lt_of_div (A := A) (B := B) (k := k) (by omega)
    simp [this, r]
  · have := lt_of_div (A := B) (B := A) (k := k) (by omega)
    have n1 : ¬ A < B := by omega
    have n2 : ¬ dg A k < dg B k := by omega
    simp [n1, n2]

def RetB (w : World) (r : Bool) (e : Ending) (w' : World) : Prop := e = .returned (.bool r) ∧ Below w.heap.size w w'

set_option maxRecDepth 100000 in
set_option maxHeartbeats 1000000 in
theorem less_any (A B : Int) (a0 : 0 ≤ A) (b0 : 0 ≤ B) (a1 : A < bp 8) (b1 : B < bp 8) (r : Bool) (hr : r = decide (A < B)) (w : World) : Calls Tryd.prog 53 #[.agg (NV A), .agg (NV B)] w (RetB w r) := by
  have AB : Hid (0 ≤ A ∧ 0 ≤ B ∧ A < bp 8 ∧ B < bp 8 ∧ r = decide (A < B)) := hid ⟨a0, b0, a1, b1, hr⟩
  clear a0 b0 a1 b1 hr
  have H := two_n A B w
  go_enter Tryd.func53, Tryd.ntmps53
  go_wp2_with fail
  go_loopw [5] (fun i wr => ∃ k : Nat, k ≤ 8 ∧ i = .int .i64 ((k : Int) - 1) ∧ Hid (A / bp k = B / bp k ∧ Sto w wr w.heap.size [(w.heap.size + 1, nob B), (w.heap.size, nob A)])) (fun i _ => (intOf i + 1).toNat)
  case atStart => exact ⟨8, by omega, rfl, hid ⟨by obtain ⟨a0, b0, a1, b1, _⟩ := AB.out; rw [Int.ediv_eq_zero_of_lt a0 a1, Int.ediv_eq_zero_of_lt b0 b1], H.out⟩⟩
  case round =>
    obtain ⟨k, hk, rfl, I⟩ := hrel
    clear H
    cases k with
    | zero =>
      have E : r = false := by
        have h := I.out.1
        rw [bp_zero, Int.ediv_one, Int.ediv_one] at h
        rw [AB.out.2.2.2.2, h]; simp
      subst E
      go_wp2_with fail
      go_ret
      exact ⟨rfl, I.out.2.below⟩
    | succ j =>
      have e0 : (((j + 1 : Nat) : Int) - 1) = j := by omega
      rw [e0]
      have ca := dob_cell (nob_dob A ▸ I.out.2.mid [_]) (show j < 8 by omega)
      have cb := dob_cell (nob_dob B ▸ I.out.2.mid []) (show j < 8 by omega)
      have da := dg_dig A j
      have db := dg_dig B j
      have LS := hid (fun he => less_step (k := j) I.out.1 he)
      generalize hu : dg A j = u at *
      generalize hv : dg B j = v at *
      have HU := hid hu
      have HV := hid hv
      clear hu hv e0
      by_cases he : u = v
      · subst he
        go_wp2_with fail
        go_quiet (fail)
        go_wp2_with fail
        go_roundw
        case rel => exact ⟨j, by omega, rfl, hid ⟨by rw [div_bp A j, div_bp B j, I.out.1, HU.out, HV.out], I.out.2.drewN _⟩⟩
        case measure => simp [intOf]
      · have he' : (u != v) = true := by simpa using he
        have E := hid (AB.out.2.2.2.2.trans (LS.out he))
        go_wp2_with fail
        go_quiet (fail)
        go_wp2_with fail
        go_quiet (fail)
        go_wp2_with fail
        go_ret
        exact ⟨congrArg (fun z => Ending.returned (.bool z)) E.out.symm, ((I.out.2.drewN _).drewN _).below⟩
end Go.Proofs.YtflmkgecgijncaaDoor

namespace Go.Proofs.YtflmkgecgijncaaDoor
open Go.RowKit Go.Shelf Mth

theorem Sto.zero {w0 W : World} {B : Nat} {Bs : List (Nat × Obj)} (h : Sto w0 W B Bs) : Sto w0 (W.alloc (.cells (List.replicate 8 (Value.int .u64 0)).toArray 43)) B ((W.heap.size, nob 0) :: Bs) := by
  have := h.alloc (List.replicate 8 (Value.int .u64 0)).toArray 43
  rw [dob_new] at this; exact this

/-- Four new blocks: three numbers and a result. -/
theorem four_n (A B M : Int) (w : World) : Hid (Sto w ((((w.alloc (.cells (NV A) 43)).alloc (.cells (NV B) 43)).alloc (.cells (NV M) 43)).alloc (.cells (List.replicate 8 (Value.int .u64 0)).toArray 43)) w.heap.size [(w.heap.size + 1 + 1 + 1, nob 0), (w.heap.size + 1 + 1, nob M), (w.heap.size + 1, nob B), (w.heap.size, nob A)]) := by
  have S0 := ((((Sto.start w).alloc (NV A) 43).alloc (NV B) 43).alloc (NV M) 43).zero
  have e1 : (w.alloc (.cells (NV A) 43)).heap.size = w.heap.size + 1 := by simp
  have e2 : ((w.alloc (.cells (NV A) 43)).alloc (.cells (NV B) 43)).heap.size = w.heap.size + 1 + 1 := by simp
  have e3 : (((w.alloc (.cells (NV A) 43)).alloc (.cells (NV B) 43)).alloc (.cells (NV M) 43)).heap.size = w.heap.size + 1 + 1 + 1 := by simp
  rw [e1, e2, e3] at S0
  exact hid S0

set_option maxRecDepth 100000 in
set_option maxHeartbeats 1000000 in
theorem plus_any (A B M : Int) (a0 : 0 ≤ A) (b0 : 0 ≤ B) (a1 : A < M) (b1 : B < M) (m1 : M * 2 ≤ bp 8) (w : World) : Calls Tryd.prog 34 #[.agg (NV A), .agg (NV B), .agg (NV M)] w (RetN w ((A + B) % M)) := by
  have AB : Hid (0 ≤ A ∧ 0 ≤ B ∧ A < M ∧ B < M ∧ M * 2 ≤ bp 8) := hid ⟨a0, b0, a1, b1, m1⟩
  have L : Hid (A + B < bp 8 ∧ M < bp 8 ∧ 0 ≤ A + B ∧ 0 ≤ M) := hid (by omega)
  have E1 : Hid (A + B < M → (A + B) % M = A + B) := hid (fun h => Int.emod_eq_of_lt (by omega) h)
  have E2 : Hid (¬ A + B < M → (A + B) % M = A + B - M) := hid (fun h => by rw [← Int.sub_emod_right, Int.emod_eq_of_lt (by omega) (by omega)])
  clear a0 b0 a1 b1 m1
  have H := four_n A B M w
  go_enter Tryd.func34, Tryd.ntmps34
  by_cases hs : A + B < M
  · have HS := hid hs
    clear hs
    go_wp2_with (first
      | (refine load_n rfl _ rfl w.heap.size A rfl (H.out.mid [_, _, _]) ?_)
      | (refine load_n rfl _ rfl (w.heap.size + 1) B rfl (H.out.mid [_, _]) ?_)
      | (go_at_call 42; refine (sum_any A B AB.out.1 AB.out.2.1 L.out.1 _).mono ?_; rintro e w1 ⟨rfl, hb⟩; have H1 := hid (H.out.call hb).zero; clear H hb)
      | (refine store_n rfl _ _ rfl w1.heap.size (A + B) rfl rfl [] H1.out ?_; intro w2 H2; clear H1)
      | (refine load_n rfl _ rfl w1.heap.size (A + B) rfl (H2.out.mid []) ?_)
      | (refine load_n rfl _ rfl (w.heap.size + 1 + 1) M rfl (H2.out.mid [_, _]) ?_)
      | (go_at_call 53; refine (less_any (A + B) M L.out.2.2.1 L.out.2.2.2 L.out.1 L.out.2.1 true (by have := HS.out; symm; apply decide_eq_true; omega) _).mono ?_; rintro e w3 ⟨rfl, hb⟩; have H3 := hid (H2.out.call hb); clear H2 hb)
      | (refine load_n rfl _ rfl w1.heap.size (A + B) rfl (H3.out.mid []) ?_)
      | (refine store_n rfl _ _ rfl (w.heap.size + 1 + 1 + 1) (A + B) rfl rfl [_] H3.out ?_; intro w4 H4))
    rw [E1.out (by have := HS.out; omega)]
    exact ret_n (p := 6) rfl rfl (H4.out.mid [_]) rfl ⟨rfl, H4.out.below⟩
  · have HS := hid hs
    clear hs
    go_wp2_with (first
      | (refine load_n rfl _ rfl w.heap.size A rfl (H.out.mid [_, _, _]) ?_)
      | (refine load_n rfl _ rfl (w.heap.size + 1) B rfl (H.out.mid [_, _]) ?_)
      | (go_at_call 42; refine (sum_any A B AB.out.1 AB.out.2.1 L.out.1 _).mono ?_; rintro e w1 ⟨rfl, hb⟩; have H1 := hid (H.out.call hb).zero; clear H hb)
      | (refine store_n rfl _ _ rfl w1.heap.size (A + B) rfl rfl [] H1.out ?_; intro w2 H2; clear H1)
      | (refine load_n rfl _ rfl w1.heap.size (A + B) rfl (H2.out.mid []) ?_)
      | (refine load_n rfl _ rfl (w.heap.size + 1 + 1) M rfl (H2.out.mid [_, _]) ?_)
      | (go_at_call 53; refine (less_any (A + B) M L.out.2.2.1 L.out.2.2.2 L.out.1 L.out.2.1 false (by have := HS.out; symm; apply decide_eq_false; omega) _).mono ?_; rintro e w3 ⟨rfl, hb⟩; have H3 := hid (H2.out.call hb); clear H2 hb)
      | (refine load_n rfl _ rfl w1.heap.size (A + B) rfl (H3.out.mid []) ?_)
      | (refine load_n rfl _ rfl (w.heap.size + 1 + 1) M rfl (H3.out.mid [_, _]) ?_)
      | (go_at_call 44; refine (rest_any (A + B) M L.out.2.2.2 (by have := HS.out; omega) L.out.1 _).mono ?_; rintro e w4 ⟨rfl, hb⟩; have H4 := hid (H3.out.call hb); clear H3 hb)
      | (refine store_n rfl _ _ rfl (w.heap.size + 1 + 1 + 1) (A + B - M) rfl rfl [_] H4.out ?_; intro w5 H5))
    rw [E2.out (by have := HS.out; omega)]
    exact ret_n (p := 6) rfl rfl (H5.out.mid [_]) rfl ⟨rfl, H5.out.below⟩

set_option maxRecDepth 100000 in
set_option maxHeartbeats 1000000 in
theorem minus_any (A B M : Int) (a0 : 0 ≤ A) (b0 : 0 ≤ B) (a1 : A < M) (b1 : B < M) (m1 : M * 2 ≤ bp 8) (w : World) : Calls Tryd.prog 35 #[.agg (NV A), .agg (NV B), .agg (NV M)] w (RetN w ((A - B) % M)) := by
  have AB : Hid (0 ≤ A ∧ 0 ≤ B ∧ A < M ∧ B < M ∧ M * 2 ≤ bp 8) := hid ⟨a0, b0, a1, b1, m1⟩
  have L : Hid (A + M < bp 8 ∧ A < bp 8 ∧ B < bp 8 ∧ 0 ≤ M) := hid (by omega)
  have E1 : Hid (¬ A < B → (A - B) % M = A - B) := hid (fun h => Int.emod_eq_of_lt (by omega) (by omega))
  have E2 : Hid (A < B → (A - B) % M = A + M - B) := hid (fun h => by rw [← Int.add_emod_right, Int.emod_eq_of_lt (by omega) (by omega)]; omega)
  clear a0 b0 a1 b1 m1
  have H := four_n A B M w
  go_enter Tryd.func35, Tryd.ntmps35
  by_cases hs : A < B
  · have HS := hid hs
    clear hs
    go_wp2_with (first
      | (refine load_n rfl _ rfl w.heap.size A rfl (H.out.mid [_, _, _]) ?_)
      | (refine load_n rfl _ rfl (w.heap.size + 1) B rfl (H.out.mid [_, _]) ?_)
      | (go_at_call 53; refine (less_any A B AB.out.1 AB.out.2.1 L.out.2.1 L.out.2.2.1 true (by have := HS.out; symm; apply decide_eq_true; omega) _).mono ?_; rintro e w1 ⟨rfl, hb⟩; have H1 := hid (H.out.call hb); clear H hb)
      | (refine load_n rfl _ rfl w.heap.size A rfl (H1.out.mid [_, _, _]) ?_)
      | (refine load_n rfl _ rfl (w.heap.size + 1 + 1) M rfl (H1.out.mid [_]) ?_)
      | (go_at_call 42; refine (sum_any A M AB.out.1 L.out.2.2.2 L.out.1 _).mono ?_; rintro e w2 ⟨rfl, hb⟩; have H2 := hid (H1.out.call hb); clear H1 hb)
      | (refine store_n rfl _ _ rfl w.heap.size (A + M) rfl rfl [_, _, _] H2.out ?_; intro w3 H3; clear H2)
      | (refine load_n rfl _ rfl w.heap.size (A + M) rfl (H3.out.mid [_, _, _]) ?_)
      | (refine load_n rfl _ rfl (w.heap.size + 1) B rfl (H3.out.mid [_, _]) ?_)
      | (go_at_call 44; refine (rest_any (A + M) B AB.out.2.1 (by have := AB.out; omega) L.out.1 _).mono ?_; rintro e w4 ⟨rfl, hb⟩; have H4 := hid (H3.out.call hb); clear H3 hb)
      | (refine store_n rfl _ _ rfl (w.heap.size + 1 + 1 + 1) (A + M - B) rfl rfl [] H4.out ?_; intro w5 H5))
    rw [E2.out (by have := HS.out; omega)]
    exact ret_n (p := 6) rfl rfl (H5.out.mid []) rfl ⟨rfl, H5.out.below⟩
  · have HS := hid hs
    clear hs
    go_wp2_with (first
      | (refine load_n rfl _ rfl w.heap.size A rfl (H.out.mid [_, _, _]) ?_)
      | (refine load_n rfl _ rfl (w.heap.size + 1) B rfl (H.out.mid [_, _]) ?_)
      | (go_at_call 53; refine (less_any A B AB.out.1 AB.out.2.1 L.out.2.1 L.out.2.2.1 false (by have := HS.out; symm; apply decide_eq_false; omega) _).mono ?_; rintro e w1 ⟨rfl, hb⟩; have H1 := hid (H.out.call hb); clear H hb)
      | (refine load_n rfl _ rfl w.heap.size A rfl (H1.out.mid [_, _, _]) ?_)
      | (refine load_n rfl _ rfl (w.heap.size + 1) B rfl (H1.out.mid [_, _]) ?_)
      | (go_at_call 44; refine (rest_any A B AB.out.2.1 (by have := HS.out; omega) L.out.2.1 _).mono ?_; rintro e w4 ⟨rfl, hb⟩; have H4 := hid (H1.out.call hb); clear H1 hb)
      | (refine store_n rfl _ _ rfl (w.heap.size + 1 + 1 + 1) (A - B) rfl rfl [] H4.out ?_; intro w5 H5))
    rw [E1.out (by have := HS.out; omega)]
    exact ret_n (p := 6) rfl rfl (H5.out.mid []) rfl ⟨rfl, H5.out.below⟩

/-- Bit i of a number. -/
def nbit (V : Int) (i : Nat) : Bool := V / 2 ^ i % 2 == 1

theorem dg_bit (V : Int) (i : Nat) : dg V (i / 32) / 2 ^ (i % 32) % 2 = V / 2 ^ i % 2 := by
  unfold dg bp
  have e : (2 : Int) ^ i = 4294967296 ^ (i / 32) * 2 ^ (i % 32) := by
    rw [show (4294967296 : Int) = 2 ^ 32 by decide, ← Int.pow_mul, ← Int.pow_add]; congr 1; omega
  have hp : (0 : Int) < 4294967296 ^ (i / 32) := Int.pow_pos (by decide)
  rw [e, ← Int.ediv_ediv_of_nonneg (Int.le_of_lt hp)]
  generalize V / 4294967296 ^ (i / 32) = z
  have h : i % 32 < 32 := Nat.mod_lt _ (by decide)
  generalize i % 32 = r at *
  have : r = 0 ∨ r = 1 ∨ r = 2 ∨ r = 3 ∨ r = 4 ∨ r = 5 ∨ r = 6 ∨ r = 7 ∨ r = 8 ∨ r = 9 ∨ r = 10 ∨ r = 11 ∨ r = 12 ∨ r = 13 ∨ r = 14 ∨ r = 15 ∨ r = 16 ∨ r = 17 ∨ r = 18 ∨ r = 19 ∨ r = 20 ∨ r = 21 ∨ r = 22 ∨ r = 23 ∨ r = 24 ∨ r = 25 ∨ r = 26 ∨ r = 27 ∨ r = 28 ∨ r = 29 ∨ r = 30 ∨ r = 31 := by omega
  rcases this with rfl | rfl | rfl | rfl | rfl | rfl | rfl | rfl | rfl | rfl | rfl | rfl | rfl | rfl | rfl | rfl | rfl | rfl | rfl | rfl | rfl | rfl | rfl | rfl | rfl | rfl | rfl | rfl | rfl | rfl | rfl | rfl <;> omega

set_option maxRecDepth 100000 in
set_option maxHeartbeats 1000000 in
theorem bit_any (V : Int) (i : Nat) (hi : i < 256) (w : World) : Calls Tryd.prog 32 #[.agg (NV V), .int .i64 i] w (RetB w (nbit V i)) := by
  have S0 := hid ((Sto.start w).alloc (NV V) 43)
  have hc := dob_cell (f := dg V) (S0.out.mid []) (show i / 32 < 8 by omega)
  have hd := dg_dig V (i / 32)
  have E := hid (dg_bit V i)
  generalize hu : dg V (i / 32) = u at *
  clear hu
  go_enter Tryd.func32, Tryd.ntmps32
  go_wp2_with fail
  go_ret
  refine ⟨congrArg (fun z => Ending.returned (.bool z)) ?_, S0.out.below⟩
  show ((u / 2 ^ (i % 32)).tmod 2 == 1) = nbit V i
  rw [Int.tmod_eq_emod_of_nonneg (Int.ediv_nonneg hd.1 (Int.le_of_lt (Int.pow_pos (by decide)))), E.out]; rfl
end Go.Proofs.YtflmkgecgijncaaDoor

namespace Go.Proofs.YtflmkgecgijncaaDoor
open Go.RowKit Go.Shelf Mth

/-- A call of f is entered. -/
def Ent (f : FuncId) : Prop := ∀ (args : Array Value) (w : World), (callFunc f args).run Tryd.prog w = .ok (.enter f args) w
theorem ent_of {f : FuncId} {fn : Func} (hf : Tryd.prog.funcs[f]? = some fn) (hname : (fn.name == "runtime.NumGoroutine") = false) (hb : fn.body.isSome = true) : Ent f := by
  intro args w
  obtain ⟨c, hc⟩ := Option.isSome_iff_exists.1 hb
  have h1 : fn.name ≠ "runtime.NumGoroutine" := by simpa using hname
  simp [callFunc, hf, h1, hc]

theorem execOp_call_fn {o : Oper} {ρ : Operand → Value} {f : FuncId} {xs : Array Operand} {ats : Array TypeId} (hop : o.op = .call { callee := .value (.func f), args := xs, argTypes := ats }) (ef : ρ (.func f) = .func (.func f) #[] #[]) :
    execOp ρ o = callFunc f (xs.map ρ) := by
  unfold execOp
  simp [hop, resolve, Deferred.ofValue, invoke, ef]

structure GivesAt (P : Program) (ops : Array Oper) (j : Nat) (ρ : Operand → Value) (w : World) (R : Value → World → Prop) : Prop where
  out : ∀ o, ops[j]? = some o → Gives P o ρ w R
theorem givesAt_of {P : Program} {ops : Array Oper} {j : Nat} {ρ : Operand → Value} {w : World} {R : Value → World → Prop} (o : Oper) (h : ops[j]? = some o) (g : Gives P o ρ w R) : GivesAt P ops j ρ w R := by
  refine ⟨?_⟩; intro o' h'; rw [h] at h'; cases h'; exact g

theorem gives_call {o : Oper} {a : Act} {w : World} {v : Value} {f : FuncId} {xs : Array Operand} {ats : Array TypeId} (hop : o.op = .call { callee := .value (.func f), args := xs, argTypes := ats }) (he : Ent f) (args : Array Value) (ha : xs.map a.eval = args)
    (hc : Calls Tryd.prog f args w fun e w' => e = .returned v ∧ Below w.heap.size w w') : Gives Tryd.prog o a.eval w fun v' w' => v' = v ∧ Below w.heap.size w w' := by
  refine ⟨?_⟩
  unfold GivesD
  rw [execOp_call_fn hop rfl, ha, he]
  exact hc.mono fun e w' ⟨h1, h2⟩ => ⟨v, h1, rfl, h2⟩

theorem gives_load43 {o : Oper} {ρ : Operand → Value} {w : World} (x : Operand) (ho : o.op = .load 43 x) (g : Nat) (V : Int) (hx : ρ x = .pointer (some ⟨g, 0, none⟩)) (hg : w.heap[g]? = some (nob V)) :
    Gives Tryd.prog o ρ w fun v w' => v = .agg (NV V) ∧ Below w.heap.size w w' := by
  refine ⟨?_⟩
  unfold GivesD execOp
  simp only [ho, hx, Instr.loadAt, Instr.sureAddr, Sem.run_bind, Sem.run_pure, Result.andThen_ok, run_loadVar_row w g 43 43 (NV V) (0, 0) _ hg Tryd.underlying43 rfl (by rw [info43, NV_size])]
  exact ⟨trivial, Below.refl _ _⟩

theorem gives_load22 {o : Oper} {ρ : Operand → Value} {w : World} (x : Operand) (ho : o.op = .load 22 x) (g : Nat) (f : Nat → Int) (hx : ρ x = .pointer (some ⟨g, 0, none⟩)) (hg : w.heap[g]? = some (aob f)) :
    Gives Tryd.prog o ρ w fun v w' => v = av f ∧ Below w.heap.size w w' := by
  refine ⟨?_⟩
  unfold GivesD execOp
  simp only [ho, hx, Instr.loadAt, Instr.sureAddr, Sem.run_bind, Sem.run_pure, Result.andThen_ok, run_loadVar_row w g 22 22 (bvals f).toArray (0, 0) _ hg Tryd.underlying22 rfl (by rw [info22]; simp [bvals_len])]
  exact ⟨rfl, Below.refl _ _⟩

theorem gives_val {o : Oper} {ρ : Operand → Value} {w : World} {v : Value} (h : (execOp ρ o).run Tryd.prog w = .ok (.value v) w) : Gives Tryd.prog o ρ w fun v' w' => v' = v ∧ Below w.heap.size w w' := by
  refine ⟨?_⟩; unfold GivesD; rw [h]; exact ⟨rfl, Below.refl _ _⟩

theorem gives_alloc43 {o : Oper} {ρ : Operand → Value} {w : World} (ho : o.op = .alloc 43) : Gives Tryd.prog o ρ w fun v w' => v = .pointer (some ⟨w.heap.size, 0, none⟩) ∧ w' = w.alloc (nob 0) := by
  refine ⟨?_⟩
  unfold GivesD execOp
  rw [← dob_new]
  simp [ho, go_sem]

/-- p of each of the list. -/
def AllL (p : Nat → Prop) : List Nat → Prop
  | [] => True
  | j :: L => p j ∧ AllL p L
theorem AllL.at {p : Nat → Prop} : ∀ {L : List Nat}, AllL p L → ∀ j ∈ L, p j
  | _ :: _, h, j, hj => by
    rcases List.mem_cons.1 hj with rfl | r
    · exact h.1
    · exact h.2.at j r

def isAlloc (ops : Array Oper) (t : TypeId) (j : Nat) : Bool := match ops[j]? with
  | some o => match o.op with | .alloc t' => t' == t | _ => false
  | none => false

def cval (cvs : List Value) (j : Nat) : Value := cvs.getD j undef

theorem region_free {ops : Array Oper} {Q : Exit → Act → World → Prop} {id : Nat} {a : Act} {w : World} (L als cs : List Nat) (cvs : List Value) (listed1 : Array Bool) (fuel2 : Nat) (A : Act → (Nat → Nat) → Act)
    (hsz : ops.size = L.length + fuel2) (hfree : freeB ops L (Array.replicate ops.size false) = true) (h1 : L.foldl (fun l j => l.setIfInBounds j true) (Array.replicate ops.size false) = listed1)
    (hL : (L.all fun j => als.contains j || cs.contains j) = true) (hal : (als.all fun j => isAlloc ops 43 j) = true)
    (hA : ∀ β, canonAll ops (fval als.contains (cval cvs) β) L a = A a β)
    (hcall : AllL (fun j => ∀ β w', Below w.heap.size w w' → GivesAt Tryd.prog ops j (A a β).eval w' fun v w'' => v = cval cvs j ∧ Below w'.heap.size w' w'') cs)
    (hfin : ∀ β w', Below w.heap.size w w' → Laid L als.contains (nob 0) w.heap.size β (fun _ => true) w' → wpAnyH Tryd.prog .any ops Q (fun _ => True) fuel2 listed1 (A a β) w') :
    (Code.region id ops true).wp Tryd.prog Q a w := by
  refine wp_region_held_drew (S := fun _ => True) (by kernel_rfl) trivial (fun _ => ?_)
  rw [hsz]
  have conv : ∀ {w'}, Below w.drew.heap.size w.drew w' → Below w.heap.size w w' := fun h => ⟨h.os, h.tape, h.output, h.size, h.block⟩
  have hfree' : freeB ops L (Array.replicate (L.length + fuel2) false) = true := by rw [← hsz]; exact hfree
  refine wpAnyH_free L als.contains (cval cvs) (nob 0) _ listed1 a w.drew fuel2 hfree' (by rw [← hsz]; exact h1) ?_ ?_ (fun _ _ => trivial) ?_
  · intro j hj ha o ho ρ w'
    have hj' : j ∈ als := by simpa using ha
    have := List.all_eq_true.1 hal j hj'
    unfold isAlloc at this
    rw [ho] at this
    simp only at this
    refine gives_alloc43 ?_
    generalize o.op = op at this
    cases op <;> simp at this
    subst this; rfl
  · intro j hj ha o ho β w' hb
    have := List.all_eq_true.1 hL j hj
    rw [ha, Bool.false_or] at this
    have hc : j ∈ cs := by simpa using this
    rw [hA]
    exact (hcall.at j hc β w' (conv hb)).out o ho
  · intro β w' hb hl
    rw [hA]
    exact hfin β w' (conv hb) hl

theorem kept_obj {w w' : World} {g : Nat} {ob : Obj} (h : w.heap[g]? = some ob) (hb : Below w.heap.size w w') : w'.heap[g]? = some ob := (hb.block g (obj_lt h)).trans h

/-- New blocks, of whatever number. -/
theorem Laid.sto {w0 W W2 : World} {B : Nat} {Bs : List (Nat × Obj)} {L als : List Nat} {ob : Obj} {β : Nat → Nat} (hl : Laid L als.contains ob W.heap.size β (fun _ => true) W2) (h : Sto w0 W B Bs) (hb : Below W.heap.size W W2)
    (hsub : (als.all fun j => L.contains j) = true) (hnd : decide als.Nodup = true) : Sto w0 W2 B (als.map (fun j => (β j, ob)) ++ Bs) := by
  have h' := h.call hb
  have hin : ∀ j ∈ als, j ∈ L := fun j hj => by simpa using List.all_eq_true.1 hsub j hj
  have hal : ∀ j ∈ als, als.contains j = true := fun j hj => by simpa using hj
  have hnd' : als.Nodup := of_decide_eq_true hnd
  have got : ∀ j ∈ als, W.heap.size ≤ β j ∧ W2.heap[β j]? = some ob := fun j hj => hl.got j (hin j hj) (hal j hj) rfl
  refine ⟨h'.below, h.size, ?_, ?_, ?_⟩
  · intro t ht
    rcases List.mem_append.1 ht with r | r
    · obtain ⟨j, hj, rfl⟩ := List.mem_map.1 r
      exact Nat.le_trans h.big (got j hj).1
    · exact h.lt t r
  · intro t ht
    rcases List.mem_append.1 ht with r | r
    · obtain ⟨j, hj, rfl⟩ := List.mem_map.1 r
      exact (got j hj).2
    · exact h'.heap t r
  · rw [List.pairwise_append]
    refine ⟨?_, h.ne, fun t ht s hs => ?_⟩
    · rw [List.pairwise_map]
      refine List.Pairwise.imp_of_mem ?_ hnd'
      intro j k hj hk hjk
      exact hl.ne k (hin k hk) j (hin j hj) (hal k hk) (hal j hj) rfl rfl (Ne.symm hjk)
    · obtain ⟨j, hj, rfl⟩ := List.mem_map.1 ht
      have h1 := obj_lt (h.heap s hs)
      have h2 := (got j hj).1
      show s.1 ≠ β j
      omega

/-- As region_free, in the midst of a region, with S kept. -/
theorem free_s {ops : Array Oper} {Q : Exit → Act → World → Prop} {S : World → Prop} {fuel : Nat} {a : Act} {w : World} (L als cs : List Nat) (cvs : List Value) (listed0 listed1 : Array Bool) (fuel2 : Nat) (A : Act → (Nat → Nat) → Act)
    (hfree : freeB ops L listed0 = true) (h1 : L.foldl (fun l j => l.setIfInBounds j true) listed0 = listed1)
    (hL : (L.all fun j => als.contains j || cs.contains j) = true) (hal : (als.all fun j => isAlloc ops 43 j) = true)
    (hA : ∀ β, canonAll ops (fval als.contains (cval cvs) β) L a = A a β)
    (hcall : AllL (fun j => ∀ β w', Below w.heap.size w w' → GivesAt Tryd.prog ops j (A a β).eval w' fun v w'' => v = cval cvs j ∧ Below w'.heap.size w' w'') cs)
    (hS : ∀ w', Below w.heap.size w w' → S w')
    (hfin : ∀ β w', Below w.heap.size w w' → Laid L als.contains (nob 0) w.heap.size β (fun _ => true) w' → wpAnyH Tryd.prog .any ops Q S fuel2 listed1 (A a β) w')
    (hfu : fuel = L.length + fuel2 := by rfl) :
    wpAnyH Tryd.prog .any ops Q S fuel listed0 a w := by
  subst hfu
  refine wpAnyH_free L als.contains (cval cvs) (nob 0) listed0 listed1 a w fuel2 hfree h1 ?_ ?_ hS ?_
  · intro j hj ha o ho ρ w'
    have hj' : j ∈ als := by simpa using ha
    have := List.all_eq_true.1 hal j hj'
    unfold isAlloc at this
    rw [ho] at this
    simp only at this
    refine gives_alloc43 ?_
    generalize o.op = op at this
    cases op <;> simp at this
    subst this; rfl
  · intro j hj ha o ho β w' hb
    have := List.all_eq_true.1 hL j hj
    rw [ha, Bool.false_or] at this
    have hc : j ∈ cs := by simpa using this
    rw [hA]
    exact (hcall.at j hc β w' hb).out o ho
  · intro β w' hb hl
    rw [hA]
    exact hfin β w' hb hl

theorem y_build_n {ops : Array Oper} {S : World → Prop} {o : Oper} {a : Act} (hw : Region.wanted o (yielded ops a.tmps) = true) (parts : Array (Nat × Operand)) (ho : o.op = .build 43 parts) (V : Int) (l : List (Nat × Value)) (hl : (parts.map fun (i, x) => (i, a.eval x)).toList = l)
    (hb : Tryd.prog.built 43 l = some (NV V)) : YieldsIf Tryd.prog ops S o (.agg (NV V)) a := by
  refine Or.inl ⟨hw, fun w _ => ?_⟩
  unfold execOp
  simp only [ho, Sem.run_bind, run_build w 43 _ _ (by rw [hl]; exact hb), Result.andThen_ok]; rfl

/-- A store behind what was drawn, S to be shown anew. -/
theorem store_any {ops : Array Oper} {Q : Exit → Act → World → Prop} {S : World → Prop} {fuel i : Nat} {listed : Array Bool} {a : Act} {w : World} (hr : Region.ready .any ops listed = [i]) (o : Oper) (ho : ops[i]? = some o) (hg : o.guard = none) (hd : o.dst = none)
    (x y : Operand) (hop : o.op = .store 43 x y) (g : Nat) (V : Int) (hx : a.eval x = .pointer (some ⟨g, 0, none⟩)) (hy : a.eval y = .agg (NV V)) {w0 : World} {B : Nat} (l1 : List (Nat × Obj)) {U : Int} {l2 : List (Nat × Obj)} (hS : Sto w0 w B (l1 ++ (g, nob U) :: l2))
    (h : ∀ w', Sto w0 w' B (l1 ++ (g, nob V) :: l2) → S w' ∧ wpAnyH Tryd.prog .any ops Q S fuel (listed.setIfInBounds i true) a w') : wpAnyH Tryd.prog .any ops Q S (fuel + 1) listed a w := by
  refine wpAnyH_all hr (by simp) ?_
  intro j hj
  obtain rfl : j = i := by simpa using hj
  unfold wpOp
  rw [ho]
  have hw : Region.wanted o (yielded ops a.tmps) = true := by unfold Region.wanted; rw [hg]
  simp only [hw, if_true]
  left
  refine wp_store_row 43 x y hop g _ hx hy 43 (NV U) (hS.mid l1) (by rw [info43, NV_size]) (by rw [NV_size, NV_size]) (NV_one V) ?_
  rw [hd]
  exact h _ (hS.row l1)

/-- A store behind all that was drawn. -/
theorem wpAnyH_store {ops : Array Oper} {Q : Exit → Act → World → Prop} {fuel i : Nat} {listed : Array Bool} {a : Act} {w : World} (hr : Region.ready .any ops listed = [i]) (o : Oper) (ho : ops[i]? = some o) (hg : o.guard = none) (hd : o.dst = none)
    (x y : Operand) (hop : o.op = .store 43 x y) (g : Nat) (V : Int) (hx : a.eval x = .pointer (some ⟨g, 0, none⟩)) (hy : a.eval y = .agg (NV V)) {w0 : World} {B : Nat} (l1 : List (Nat × Obj)) {U : Int} {l2 : List (Nat × Obj)} (hS : Sto w0 w B (l1 ++ (g, nob U) :: l2))
    (h : ∀ w', Sto w0 w' B (l1 ++ (g, nob V) :: l2) → wpAnyH Tryd.prog .any ops Q (fun _ => True) fuel (listed.setIfInBounds i true) a w') : wpAnyH Tryd.prog .any ops Q (fun _ => True) (fuel + 1) listed a w := by
  refine wpAnyH_all hr (by simp) ?_
  intro j hj
  obtain rfl : j = i := by simpa using hj
  unfold wpOp
  rw [ho]
  have hw : Region.wanted o (yielded ops a.tmps) = true := by unfold Region.wanted; rw [hg]
  simp only [hw, if_true]
  left
  refine wp_store_row 43 x y hop g _ hx hy 43 (NV U) (hS.mid l1) (by rw [info43, NV_size]) (by rw [NV_size, NV_size]) (NV_one V) ?_
  rw [hd]
  exact ⟨trivial, h _ (hS.row l1)⟩

theorem wpAnyH_end {ops : Array Oper} {Q : Exit → Act → World → Prop} {S : World → Prop} {listed : Array Bool} {a : Act} {w : World} (hr : Region.ready .any ops listed = []) (h : Q .normal a w) : wpAnyH Tryd.prog .any ops Q S 0 listed a w := ⟨hr, h⟩

theorem ent33 : Ent 33 := ent_of Tryd.func33 (by kernel_rfl) (by kernel_rfl)
theorem ent30 : Ent 30 := ent_of Tryd.func30 (by kernel_rfl) (by kernel_rfl)
theorem ent31 : Ent 31 := ent_of Tryd.func31 (by kernel_rfl) (by kernel_rfl)
theorem ent53 : Ent 53 := ent_of Tryd.func53 (by kernel_rfl) (by kernel_rfl)
theorem ent44 : Ent 44 := ent_of Tryd.func44 (by kernel_rfl) (by kernel_rfl)
theorem ent34 : Ent 34 := ent_of Tryd.func34 (by kernel_rfl) (by kernel_rfl)
theorem ent35 : Ent 35 := ent_of Tryd.func35 (by kernel_rfl) (by kernel_rfl)
theorem ent36 : Ent 36 := ent_of Tryd.func36 (by kernel_rfl) (by kernel_rfl)
theorem ent54 : Ent 54 := ent_of Tryd.func54 (by kernel_rfl) (by kernel_rfl)
theorem ent38 : Ent 38 := ent_of Tryd.func38 (by kernel_rfl) (by kernel_rfl)
theorem ent37 : Ent 37 := ent_of Tryd.func37 (by kernel_rfl) (by kernel_rfl)
theorem ent28 : Ent 28 := ent_of Tryd.func28 (by kernel_rfl) (by kernel_rfl)
theorem ent29 : Ent 29 := ent_of Tryd.func29 (by kernel_rfl) (by kernel_rfl)
end Go.Proofs.YtflmkgecgijncaaDoor
