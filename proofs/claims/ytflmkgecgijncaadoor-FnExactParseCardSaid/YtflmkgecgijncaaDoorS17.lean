/-
  Places in memory; == of numbers; spec.curved, spec.slope. The second half was printed by gen_mult.py.
-/
import Derived.Test.YtflmkgecgijncaaDoorS14
import Derived.Test.YtflmkgecgijncaaDoorM10
import Derived.Deep.MidRow
namespace Go.Proofs.YtflmkgecgijncaaDoor
open Go.RowKit Go.Shelf Mth

/-- The cells of a place. -/
def pcells (V U : Int) (b : Bool) : List Value := nvals 8 (dg V) ++ nvals 8 (dg U) ++ [.bool b]
def PV (V U : Int) (b : Bool) : Array Value := (pcells V U b).toArray
def pob (V U : Int) (b : Bool) : Obj := .cells (PV V U b) 55 (0, 0)

theorem pcells_len (V U : Int) (b : Bool) : (pcells V U b).length = 17 := by unfold pcells; simp [nvals_len]
theorem PV_size (V U : Int) (b : Bool) : (PV V U b).size = 17 := by unfold PV; rw [List.size_toArray, pcells_len]
theorem PV_one (V U : Int) (b : Bool) : (PV V U b).all (·.oneCell') = true := by
  rw [Array.all_eq_true_iff_forall_mem]
  intro v hv
  have hv : v ∈ pcells V U b := by unfold PV at hv; simpa using hv
  unfold pcells at hv
  have one : ∀ (f : Nat → Int), v ∈ nvals 8 f → v.oneCell' = true := fun f hf => by
    unfold nvals at hf
    obtain ⟨j, _, rfl⟩ := List.mem_map.1 hf; rfl
  rcases List.mem_append.1 hv with h | h
  · rcases List.mem_append.1 h with h | h
    · exact one _ h
    · exact one _ h
  · have := List.mem_singleton.1 h; subst this; rfl
theorem info55 : (Tryd.prog.info? 55).map (·.size) = some 17 := by kernel_rfl
theorem pcells_x (V U : Int) (b : Bool) {j : Nat} (hj : j < 8) : (pcells V U b)[j]? = (nvals 8 (dg V))[j]? := by
  unfold pcells
  rw [List.getElem?_append_left (by simp [nvals_len]; omega), List.getElem?_append_left (by rw [nvals_len]; omega)]
theorem pcells_y (V U : Int) (b : Bool) {j : Nat} (hj : j < 8) : (pcells V U b)[8 + j]? = (nvals 8 (dg U))[j]? := by
  unfold pcells
  rw [List.getElem?_append_left (by simp [nvals_len]; omega), List.getElem?_append_right (by rw [nvals_len]; omega), nvals_len]
  congr 1; omega
theorem pcells_n (V U : Int) (b : Bool) : (pcells V U b)[16]? = some (.bool b) := by
  unfold pcells
  rw [List.getElem?_append_right (by simp [nvals_len])]
  simp [nvals_len]
theorem pob_cell {w : World} {g : Nat} {V U : Int} {b : Bool} (h : w.heap[g]? = some (pob V U b)) (j : Nat) : w.cell? ⟨g, j, none⟩ = (pcells V U b)[j]? := by
  unfold World.cell? pob PV at *
  rw [h]; simp
theorem pob_x {w : World} {g : Nat} {V U : Int} {b : Bool} (h : w.heap[g]? = some (pob V U b)) : w.rangeAt g 0 (nvals 8 (dg V)) := by
  intro j v hv
  have hj : j < 8 := by have := (List.getElem?_eq_some_iff.1 hv).1; rwa [nvals_len] at this
  rw [Nat.zero_add, pob_cell h, pcells_x _ _ _ hj, hv]
theorem pob_y {w : World} {g : Nat} {V U : Int} {b : Bool} (h : w.heap[g]? = some (pob V U b)) : w.rangeAt g 8 (nvals 8 (dg U)) := by
  intro j v hv
  have hj : j < 8 := by have := (List.getElem?_eq_some_iff.1 hv).1; rwa [nvals_len] at this
  rw [pob_cell h, pcells_y _ _ _ hj, hv]
theorem pob_n {w : World} {g : Nat} {V U : Int} {b : Bool} (h : w.heap[g]? = some (pob V U b)) : w.cell? ⟨g, 16, none⟩ = some (.bool b) := by
  rw [pob_cell h, pcells_n]
theorem info43' (V : Int) : (Tryd.prog.info? 43).map (·.size) = some (nvals 8 (dg V)).length := by rw [info43, nvals_len]

theorem built_pv (V U : Int) : Tryd.prog.built 55 [(0, .agg (NV V)), (1, .agg (NV U))] = some (PV V U false) := by kernel_rfl
theorem built_none : Tryd.prog.built 55 [(2, .bool true)] = some (PV 0 0 true) := by kernel_rfl
theorem zero17 : Obj.cells #[.int .u64 0, .int .u64 0, .int .u64 0, .int .u64 0, .int .u64 0, .int .u64 0, .int .u64 0, .int .u64 0, .int .u64 0, .int .u64 0, .int .u64 0, .int .u64 0, .int .u64 0, .int .u64 0, .int .u64 0, .int .u64 0, .bool false] 55 (0, 0) = pob 0 0 false := by
  unfold pob; rw [show (PV 0 0 false) = #[.int .u64 0, .int .u64 0, .int .u64 0, .int .u64 0, .int .u64 0, .int .u64 0, .int .u64 0, .int .u64 0, .int .u64 0, .int .u64 0, .int .u64 0, .int .u64 0, .int .u64 0, .int .u64 0, .int .u64 0, .int .u64 0, .bool false] by kernel_rfl]

section
variable {ops : Array Oper} {rest : List Oper} {o : Oper} {a : Act} {w : World} {Q : Exit → Act → World → Prop} {ρ : Operand → Value}
theorem load_px (hw : Region.wanted o (yielded ops a.tmps) = true) (x : Operand) (ho : o.op = .load 43 x) (g : Nat) (V U : Int) (b : Bool) (hx : a.eval x = .pointer (some ⟨g, 0, none⟩)) (hg : w.heap[g]? = some (pob V U b))
    (h : wpList Tryd.prog ops Q rest (a.put o.dst (.agg (NV V))) w) : wpList Tryd.prog ops Q (o :: rest) a w :=
  wpList_y (S := fun v => v.heap[g]? = some (pob V U b)) (yieldsIf_load_mid hw 43 x ho g 0 hx (nvals 8 (dg V)) _ (fun _ h => pob_x h) Tryd.underlying43 rfl (info43' V)) hg h
theorem load_py (hw : Region.wanted o (yielded ops a.tmps) = true) (x : Operand) (ho : o.op = .load 43 x) (g : Nat) (V U : Int) (b : Bool) (hx : a.eval x = .pointer (some ⟨g, 8, none⟩)) (hg : w.heap[g]? = some (pob V U b))
    (h : wpList Tryd.prog ops Q rest (a.put o.dst (.agg (NV U))) w) : wpList Tryd.prog ops Q (o :: rest) a w :=
  wpList_y (S := fun v => v.heap[g]? = some (pob V U b)) (yieldsIf_load_mid hw 43 x ho g 8 hx (nvals 8 (dg U)) _ (fun _ h => pob_y h) Tryd.underlying43 rfl (info43' U)) hg h
theorem load_nw (hw : Region.wanted o (yielded ops a.tmps) = true) (x : Operand) (ho : o.op = .load 43 x) (g : Nat) (V : Int) (hx : a.eval x = .pointer (some ⟨g, 0, none⟩)) (hg : w.heap[g]? = some (nob V))
    (h : wpList Tryd.prog ops Q rest (a.put o.dst (.agg (NV V))) w) : wpList Tryd.prog ops Q (o :: rest) a w :=
  wpList_y (S := fun v => v.heap[g]? = some (nob V)) (y_load_n hw x ho g V hx (fun _ h => h)) hg h
theorem build_nw (hw : Region.wanted o (yielded ops a.tmps) = true) (parts : Array (Nat × Operand)) (ho : o.op = .build 43 parts) (V : Int) (l : List (Nat × Value)) (hl : (parts.map fun (i, x) => (i, a.eval x)).toList = l)
    (hb : Tryd.prog.built 43 l = some (NV V)) (h : wpList Tryd.prog ops Q rest (a.put o.dst (.agg (NV V))) w) : wpList Tryd.prog ops Q (o :: rest) a w :=
  wpList_y (S := fun _ => True) (y_build_n hw parts ho V l hl hb) trivial h
theorem load_p (hgd : o.guard = none) (x : Operand) (ho : o.op = .load 55 x) (g : Nat) (V U : Int) (b : Bool) (hx : a.eval x = .pointer (some ⟨g, 0, none⟩)) (hg : w.heap[g]? = some (pob V U b))
    (h : wpList Tryd.prog ops Q rest (a.put o.dst (.agg (PV V U b))) w) : wpList Tryd.prog ops Q (o :: rest) a w :=
  wpList_load_row hgd 55 x ho g hx 55 (PV V U b) (0, 0) _ hg Tryd.underlying55 rfl (by rw [info55, PV_size]) h
theorem store_p (hgd : o.guard = none) (x y : Operand) (ho : o.op = .store 55 x y) (g : Nat) (V U : Int) (b : Bool) (hx : a.eval x = .pointer (some ⟨g, 0, none⟩)) (hy : a.eval y = .agg (PV V U b))
    {w0 : World} {B : Nat} (l1 : List (Nat × Obj)) {V' U' : Int} {b' : Bool} {l2 : List (Nat × Obj)} (hg : Sto w0 w B (l1 ++ (g, pob V' U' b') :: l2))
    (h : ∀ w', Hid (Sto w0 w' B (l1 ++ (g, pob V U b) :: l2)) → wpList Tryd.prog ops Q rest (a.put o.dst undef) w') : wpList Tryd.prog ops Q (o :: rest) a w := by
  refine wpList_store_row hgd 55 x y ho g _ hx hy 55 (PV V' U' b') (hg.mid l1) (by rw [info55, PV_size]) (by rw [PV_size, PV_size]) (PV_one V U b) ?_
  exact h _ (hid (hg.row l1))
theorem build_p (hgd : o.guard = none) (parts : Array (Nat × Operand)) (ho : o.op = .build 55 parts) (V U : Int) (b : Bool) (l : List (Nat × Value)) (hl : (parts.map fun (i, x) => (i, a.eval x)).toList = l) (hb : Tryd.prog.built 55 l = some (PV V U b))
    (h : wpList Tryd.prog ops Q rest (a.put o.dst (.agg (PV V U b))) w) : wpList Tryd.prog ops Q (o :: rest) a w :=
  wpList_build hgd 55 parts ho (by rw [hl, hb]; rfl) (by rw [hl, hb]; exact h)

theorem gives_px (x : Operand) (ho : o.op = .load 43 x) (g : Nat) (V U : Int) (b : Bool) (hx : ρ x = .pointer (some ⟨g, 0, none⟩)) (hg : w.heap[g]? = some (pob V U b)) : Gives Tryd.prog o ρ w fun v w' => v = .agg (NV V) ∧ Below w.heap.size w w' := by
  refine ⟨?_⟩
  unfold GivesD execOp
  simp only [ho, hx, Instr.loadAt, Instr.sureAddr, Sem.run_bind, Sem.run_pure, Result.andThen_ok, run_loadVar_mid w g 0 43 (nvals 8 (dg V)) _ (pob_x hg) Tryd.underlying43 rfl (info43' V)]
  exact ⟨rfl, Below.refl _ _⟩
theorem gives_py (x : Operand) (ho : o.op = .load 43 x) (g : Nat) (V U : Int) (b : Bool) (hx : ρ x = .pointer (some ⟨g, 8, none⟩)) (hg : w.heap[g]? = some (pob V U b)) : Gives Tryd.prog o ρ w fun v w' => v = .agg (NV U) ∧ Below w.heap.size w w' := by
  refine ⟨?_⟩
  unfold GivesD execOp
  simp only [ho, hx, Instr.loadAt, Instr.sureAddr, Sem.run_bind, Sem.run_pure, Result.andThen_ok, run_loadVar_mid w g 8 43 (nvals 8 (dg U)) _ (pob_y hg) Tryd.underlying43 rfl (info43' U)]
  exact ⟨rfl, Below.refl _ _⟩
theorem gives_build55 (parts : Array (Nat × Operand)) (ho : o.op = .build 55 parts) (V U : Int) (b : Bool) (l : List (Nat × Value)) (hl : (parts.map fun (i, x) => (i, ρ x)).toList = l) (hb : Tryd.prog.built 55 l = some (PV V U b)) : Gives Tryd.prog o ρ w fun v w' => v = .agg (PV V U b) ∧ Below w.heap.size w w' := by
  refine gives_val ?_
  unfold execOp
  simp only [ho, Sem.run_bind, run_build w 55 _ _ (by rw [hl]; exact hb), Result.andThen_ok]; rfl
end

theorem under43' : Tryd.prog.underlying 43 = some (.array 8 41) := by kernel_rfl
theorem key41 : Tryd.prog.plainKey 41 = true := by kernel_rfl
theorem guard43 : Tryd.prog.eqGuardType Tryd.prog.depth 43 = false := by kernel_rfl
theorem under41' : Tryd.prog.underlying 41 = some (.int .u64) := by kernel_rfl
theorem cells41' : Tryd.prog.cellsOf 41 = 1 := by kernel_rfl
theorem some41 : ∃ i, Tryd.prog.info? 41 = some i := by
  have h : (Tryd.prog.info? 41).isSome = true := by kernel_rfl
  exact Option.isSome_iff_exists.1 h

theorem run_items41 (d : Nat) (f g : Nat → Int) (w : World) : ∀ is : List Nat, (∀ i ∈ is, i < 8) →
    (Op.eqItems (d + 1) 41 1 (nvals 8 f).toArray (nvals 8 g).toArray is).run Tryd.prog w = .ok (is.all fun i => f i == g i) w
  | [], _ => rfl
  | i :: is, h => by
    have hi := h i (by simp)
    have gf : (nvals 8 f).toArray[i * 1]? = some (.int .u64 (f i)) := by rw [Nat.mul_one, List.getElem?_toArray]; exact nvals_get f i hi
    have gg : (nvals 8 g).toArray[i * 1]? = some (.int .u64 (g i)) := by rw [Nat.mul_one, List.getElem?_toArray]; exact nvals_get g i hi
    have ih := run_items41 d f g w is (fun j hj => h j (by simp [hj]))
    simp only [Op.eqItems, Sem.run_bind, run_part_plain w key41 gf, run_part_plain w key41 gg, Result.andThen_ok, run_equalIn_int w d 41 .u64 .u64 _ _ under41']
    cases hfg : (f i == g i)
    · simp [hfg]
    · simp [hfg, ih]
theorem run_equal43 (d : Nat) (V U : Int) (w : World) : (Op.equalIn (d + 2) 43 (.agg (NV V)) (.agg (NV U))).run Tryd.prog w = .ok ((List.range 8).all fun i => dg V i == dg U i) w := by
  obtain ⟨i, hi⟩ := some41
  unfold NV
  rw [run_equalIn_array w (d + 1) _ _ under43' hi, cells41', run_items41 d (dg V) (dg U) w _ (fun i hi => List.mem_range.1 hi)]
theorem all_dg {V U : Int} (hV : 0 ≤ V ∧ V < bp 8) (hU : 0 ≤ U ∧ U < bp 8) : ((List.range 8).all fun i => dg V i == dg U i) = decide (V = U) := by
  by_cases h : V = U
  · subst h; simp
  · have n : ((List.range 8).all fun i => dg V i == dg U i) ≠ true := by
      intro ha
      apply h
      rw [List.all_eq_true] at ha
      rw [← nd8 hV.1 hV.2, ← nd8 hU.1 hU.2]
      exact nd_congr fun j hj => by have := ha j (List.mem_range.2 hj); simpa using this
    rw [decide_eq_false h]
    exact eq_false_of_ne_true n
theorem fv_dec (a b : Fp) : decide (fv a = fv b) = decide (a = b) := by
  by_cases h : a = b
  · subst h; simp
  · rw [decide_eq_false h, decide_eq_false (fun e => h (fv_inj e))]
theorem run_equal_f (d : Nat) (a b : Fp) (w : World) : (Op.equalIn (d + 2) 43 (.agg (NV (fv a))) (.agg (NV (fv b)))).run Tryd.prog w = .ok (decide (a = b)) w := by
  rw [run_equal43, all_dg ⟨fv_lo a, fv_bp a⟩ ⟨fv_lo b, fv_bp b⟩, fv_dec]

section
variable {ops : Array Oper} {rest : List Oper} {o : Oper} {a : Act} {w : World} {Q : Exit → Act → World → Prop} {ρ : Operand → Value}
theorem y_eqf {S : World → Prop} (hw : Region.wanted o (yielded ops a.tmps) = true) (x y : Operand) (t : TypeId) (ho : o.op = .binOp .eql 43 x y t) (p q : Fp)
    (hx : a.eval x = .agg (NV (fv p))) (hy : a.eval y = .agg (NV (fv q))) (r : Bool) (hr : r = decide (p = q)) : YieldsIf Tryd.prog ops S o (.bool r) a := by
  refine Or.inl ⟨hw, fun w _ => ?_⟩
  subst hr
  unfold execOp
  simp only [ho, hx, hy, Sem.run_bind, Sem.run_pure, Result.andThen_ok, run_eqGuard_agg w .eql 43 x y _ _ guard43, run_eql_struct w 43, run_equal_f 9998 p q w]
theorem eql_f (hw : Region.wanted o (yielded ops a.tmps) = true) (x y : Operand) (t : TypeId) (ho : o.op = .binOp .eql 43 x y t) (p q : Fp)
    (hx : a.eval x = .agg (NV (fv p))) (hy : a.eval y = .agg (NV (fv q))) (r : Bool) (hr : r = decide (p = q))
    (h : wpList Tryd.prog ops Q rest (a.put o.dst (.bool r)) w) : wpList Tryd.prog ops Q (o :: rest) a w :=
  wpList_y (S := fun _ => True) (y_eqf hw x y t ho p q hx hy r hr) trivial h
end

/-- A store of a place behind all that was drawn. -/
theorem wpAnyH_store55 {ops : Array Oper} {Q : Exit → Act → World → Prop} {fuel i : Nat} {listed : Array Bool} {a : Act} {w : World} (hr : Region.ready .any ops listed = [i]) (o : Oper) (ho : ops[i]? = some o) (hg : o.guard = none) (hd : o.dst = none)
    (x y : Operand) (hop : o.op = .store 55 x y) (g : Nat) (V U : Int) (b : Bool) (hx : a.eval x = .pointer (some ⟨g, 0, none⟩)) (hy : a.eval y = .agg (PV V U b)) {w0 : World} {B : Nat} (l1 : List (Nat × Obj)) {V' U' : Int} {b' : Bool} {l2 : List (Nat × Obj)} (hS : Sto w0 w B (l1 ++ (g, pob V' U' b') :: l2))
    (h : ∀ w', Sto w0 w' B (l1 ++ (g, pob V U b) :: l2) → wpAnyH Tryd.prog .any ops Q (fun _ => True) fuel (listed.setIfInBounds i true) a w') : wpAnyH Tryd.prog .any ops Q (fun _ => True) (fuel + 1) listed a w := by
  refine wpAnyH_all hr (by simp) ?_
  intro j hj
  obtain rfl : j = i := by simpa using hj
  unfold wpOp
  rw [ho]
  have hw : Region.wanted o (yielded ops a.tmps) = true := by unfold Region.wanted; rw [hg]
  simp only [hw, if_true]
  left
  refine wp_store_row 55 x y hop g _ hx hy 55 (PV V' U' b') (hS.mid l1) (by rw [info55, PV_size]) (by rw [PV_size, PV_size]) (PV_one V U b) ?_
  rw [hd]
  exact ⟨trivial, h _ (hS.row l1)⟩

theorem ret_p {fn : Func} {p : Tmp} {g : Nat} {V U : Int} {b : Bool} {R : Ending → World → Prop} {a : Act} {w : World} (h : fn.results = #[.cell p 55]) (hp : a.tmps.getD p undef = .pointer (some ⟨g, 0, none⟩)) (hg : w.heap[g]? = some (pob V U b))
    (hd : a.defers = []) (hR : R (.returned (.agg (PV V U b))) w) : bodyPost Tryd.prog fn R .ret a w :=
  bodyPost_ret (results_cell_row h a.tmps w g 55 _ (0, 0) _ hp hg Tryd.underlying55 rfl (by rw [info55, PV_size])) hd hR
theorem cBig : (486662 : Int) = fv 486662 := by decide +kernel
theorem cTwo : (2 : Int) = fv 2 := by decide +kernel
theorem cThree : (3 : Int) = fv 3 := by decide +kernel
theorem cDbl : (973324 : Int) = fv (2 * 486662) := by decide +kernel
theorem ent39 : Ent 39 := ent_of Tryd.func39 (by kernel_rfl) (by kernel_rfl)
theorem ent40 : Ent 40 := ent_of Tryd.func40 (by kernel_rfl) (by kernel_rfl)
theorem ent55 : Ent 55 := ent_of Tryd.func55 (by kernel_rfl) (by kernel_rfl)

set_option maxRecDepth 100000 in
set_option maxHeartbeats 2000000 in
theorem curved_f (x : Fp) (w : World) : Calls Tryd.prog 39 #[.agg (NV (fv x))] w (RetN w (fv (x * (x * (x + 486662) + 1)))) := by
  have H := pair_n (fv x) w
  obtain ⟨c1, hc1⟩ : ∃ z, z = x + 486662 := ⟨_, rfl⟩
  obtain ⟨c2, hc2⟩ : ∃ z, z = x * c1 := ⟨_, rfl⟩
  obtain ⟨c3, hc3⟩ : ∃ z, z = c2 + 1 := ⟨_, rfl⟩
  obtain ⟨c4, hc4⟩ : ∃ z, z = x * c3 := ⟨_, rfl⟩
  have E : x * (x * (x + 486662) + 1) = c4 := by rw [hc4, hc3, hc2, hc1]
  rw [E]
  clear E
  replace hc1 := hid hc1
  replace hc2 := hid hc2
  replace hc3 := hid hc3
  replace hc4 := hid hc4
  go_enter Tryd.func39, Tryd.ntmps39
  go_wp2_with (first | (go_at_call 30; (with_reducible refine (prime_any _).mono ?_); rintro e w1 ⟨rfl, hb⟩; replace H := hid (H.out.call hb).zero; clear hb) | (refine store_n rfl _ _ rfl w1.heap.size pI rfl rfl [] H.out ?_; intro w2 H1; replace H := H1; clear H1))
  generalize w1.heap.size = b3 at *
  refine region_free [0, 1, 2, 3, 4, 5, 6, 7, 8, 9, 10] [] [0, 1, 2, 3, 4, 5, 6, 7, 8, 9, 10] [.agg (NV (fv x)), .agg (NV (fv x)), .agg (NV (fv x)), .agg (NV (fv 486662)), .agg (NV (pI)), .agg (NV (fv c1)), .agg (NV (fv c2)), .agg (NV (fv 1)), .agg (NV (pI)), .agg (NV (fv c3)), .agg (NV (fv c4)), undef] #[true, true, true, true, true, true, true, true, true, true, true, false] 1 (fun act _ => (((((((((((act.put (some 5) (.agg (NV (fv x)))).put (some 6) (.agg (NV (fv x)))).put (some 7) (.agg (NV (fv x)))).put (some 8) (.agg (NV (fv 486662)))).put (some 9) (.agg (NV (pI)))).put (some 10) (.agg (NV (fv c1)))).put (some 11) (.agg (NV (fv c2)))).put (some 12) (.agg (NV (fv 1)))).put (some 13) (.agg (NV (pI)))).put (some 14) (.agg (NV (fv c3)))).put (some 15) (.agg (NV (fv c4))))) (by kernel_rfl) (by kernel_rfl) (by kernel_rfl) (by kernel_rfl) (by kernel_rfl) (fun β => by kernel_rfl) ⟨fun β w1 hb => givesAt_of ({ dst := some 5, op := Op.load 43 (Operand.tmp 1), type := 43, pos := "ladder.go:52", after := #[], guard := none }) (by kernel_rfl) (gives_load43 (.tmp 1) rfl (w.heap.size) (fv x) (by kernel_rfl) (kept_obj (H.out.mid [_, _]) hb)), fun β w1 hb => givesAt_of ({ dst := some 6, op := Op.load 43 (Operand.tmp 1), type := 43, pos := "ladder.go:52", after := #[], guard := none }) (by kernel_rfl) (gives_load43 (.tmp 1) rfl (w.heap.size) (fv x) (by kernel_rfl) (kept_obj (H.out.mid [_, _]) hb)), fun β w1 hb => givesAt_of ({ dst := some 7, op := Op.load 43 (Operand.tmp 1), type := 43, pos := "ladder.go:52", after := #[], guard := none }) (by kernel_rfl) (gives_load43 (.tmp 1) rfl (w.heap.size) (fv x) (by kernel_rfl) (kept_obj (H.out.mid [_, _]) hb)), fun β w1 hb => givesAt_of ({ dst := some 8, op := Op.call { callee := Callee.value (Operand.func 31), args := #[Operand.const (Value.int IntKind.u64 486662)], argTypes := #[41] }, type := 43, pos := "ladder.go:52", after := #[], guard := none }) (by kernel_rfl) (gives_call rfl ent31 #[.int .u64 486662] (by kernel_rfl) (s_fv 486662 486662 (by decide) (by decide) cBig _)), fun β w1 hb => givesAt_of ({ dst := some 9, op := Op.load 43 (Operand.tmp 3), type := 43, pos := "ladder.go:52", after := #[], guard := none }) (by kernel_rfl) (gives_load43 (.tmp 3) rfl (b3) (pI) (by kernel_rfl) (kept_obj (H.out.mid []) hb)), fun β w1 hb => givesAt_of ({ dst := some 10, op := Op.call { callee := Callee.value (Operand.func 34), args := #[Operand.tmp 7, Operand.tmp 8, Operand.tmp 9], argTypes := #[43, 43, 43] }, type := 43, pos := "ladder.go:52", after := #[{ on := 2, ground := Ground.data }, { on := 3, ground := Ground.data }, { on := 4, ground := Ground.data }, { on := 3, ground := Ground.chain }], guard := none }) (by kernel_rfl) (gives_call rfl ent34 #[.agg (NV (fv x)), .agg (NV (fv 486662)), .agg (NV pI)] (by kernel_rfl) (plus_e x 486662 c1 hc1 _)), fun β w1 hb => givesAt_of ({ dst := some 11, op := Op.call { callee := Callee.value (Operand.func 36), args := #[Operand.tmp 6, Operand.tmp 10], argTypes := #[43, 43] }, type := 43, pos := "ladder.go:52", after := #[{ on := 1, ground := Ground.data }, { on := 5, ground := Ground.data }, { on := 5, ground := Ground.chain }], guard := none }) (by kernel_rfl) (gives_call rfl ent36 #[.agg (NV (fv x)), .agg (NV (fv c1))] (by kernel_rfl) (times_e x c1 c2 hc2 _)), fun β w1 hb => givesAt_of ({ dst := some 12, op := Op.call { callee := Callee.value (Operand.func 31), args := #[Operand.const (Value.int IntKind.u64 1)], argTypes := #[41] }, type := 43, pos := "ladder.go:52", after := #[{ on := 6, ground := Ground.chain }], guard := none }) (by kernel_rfl) (gives_call rfl ent31 #[.int .u64 1] (by kernel_rfl) (s_fv 1 1 (by decide) (by decide) fv_one.symm _)), fun β w1 hb => givesAt_of ({ dst := some 13, op := Op.load 43 (Operand.tmp 3), type := 43, pos := "ladder.go:52", after := #[], guard := none }) (by kernel_rfl) (gives_load43 (.tmp 3) rfl (b3) (pI) (by kernel_rfl) (kept_obj (H.out.mid []) hb)), fun β w1 hb => givesAt_of ({ dst := some 14, op := Op.call { callee := Callee.value (Operand.func 34), args := #[Operand.tmp 11, Operand.tmp 12, Operand.tmp 13], argTypes := #[43, 43, 43] }, type := 43, pos := "ladder.go:52", after := #[{ on := 6, ground := Ground.data }, { on := 7, ground := Ground.data }, { on := 8, ground := Ground.data }, { on := 7, ground := Ground.chain }], guard := none }) (by kernel_rfl) (gives_call rfl ent34 #[.agg (NV (fv c2)), .agg (NV (fv 1)), .agg (NV pI)] (by kernel_rfl) (plus_e c2 1 c3 hc3 _)), fun β w1 hb => givesAt_of ({ dst := some 15, op := Op.call { callee := Callee.value (Operand.func 36), args := #[Operand.tmp 5, Operand.tmp 14], argTypes := #[43, 43] }, type := 43, pos := "ladder.go:52", after := #[{ on := 0, ground := Ground.data }, { on := 9, ground := Ground.data }, { on := 9, ground := Ground.chain }], guard := none }) (by kernel_rfl) (gives_call rfl ent36 #[.agg (NV (fv x)), .agg (NV (fv c3))] (by kernel_rfl) (times_e x c3 c4 hc4 _)), trivial⟩ (fun β W hB hL => ?_)
  simp only [Act.put, List.setIfInBounds_toArray, List.set_cons_zero, List.set_cons_succ]
  refine wpAnyH_store (i := 11) (by kernel_rfl) ({ dst := none, op := Op.store 43 (Operand.tmp 2) (Operand.tmp 15), type := 0, pos := "ladder.go:52", after := #[{ on := 10, ground := Ground.data }, { on := 10, ground := Ground.chain }, { on := 0, ground := Ground.phase }, { on := 1, ground := Ground.phase }, { on := 2, ground := Ground.phase }, { on := 3, ground := Ground.phase }, { on := 4, ground := Ground.phase }, { on := 5, ground := Ground.phase }, { on := 6, ground := Ground.phase }, { on := 7, ground := Ground.phase }, { on := 8, ground := Ground.phase }, { on := 9, ground := Ground.phase }, { on := 10, ground := Ground.phase }], guard := none }) (by kernel_rfl) rfl rfl (.tmp 2) (.tmp 15) rfl (w.heap.size + 1) (fv c4) (by kernel_rfl) (by kernel_rfl) [_] (H.out.call hB) (fun W2 H2 => ?_)
  refine wpAnyH_end (by kernel_rfl) ?_
  have H3 := hid H2
  clear H H2 hB hL
  go_wp2_with fail
  exact ret_n (p := 2) rfl rfl (H3.out.mid [_]) rfl ⟨rfl, H3.out.below⟩

/-- Blocks of a number, two places, and a result. -/
theorem start_s (b V1 U1 V2 U2 : Int) (f1 f2 : Bool) (w : World) : Hid (Sto w ((((w.alloc (.cells (NV b) 43)).alloc (.cells (PV V1 U1 f1) 55)).alloc (.cells (PV V2 U2 f2) 55)).alloc (.cells (List.replicate 8 (Value.int .u64 0)).toArray 43)) w.heap.size [(w.heap.size + 1 + 1 + 1, nob 0), (w.heap.size + 1 + 1, pob V2 U2 f2), (w.heap.size + 1, pob V1 U1 f1), (w.heap.size, nob b)]) := by
  have S0 := ((((Sto.start w).alloc (NV b) 43).alloc (PV V1 U1 f1) 55).alloc (PV V2 U2 f2) 55).zero
  have e1 : (w.alloc (.cells (NV b) 43)).heap.size = w.heap.size + 1 := by simp
  have e2 : ((w.alloc (.cells (NV b) 43)).alloc (.cells (PV V1 U1 f1) 55)).heap.size = w.heap.size + 1 + 1 := by simp
  have e3 : (((w.alloc (.cells (NV b) 43)).alloc (.cells (PV V1 U1 f1) 55)).alloc (.cells (PV V2 U2 f2) 55)).heap.size = w.heap.size + 1 + 1 + 1 := by simp
  rw [e1, e2, e3] at S0
  exact hid S0

set_option maxRecDepth 100000 in
set_option maxHeartbeats 4000000 in
theorem slope_f (b x1 y1 x2 y2 : Fp) (f1 f2 : Bool) (w : World) : Calls Tryd.prog 55 #[.agg (NV (fv b)), .agg (PV (fv x1) (fv y1) f1), .agg (PV (fv x2) (fv y2) f2)] w (RetN w (fv (slopeF Mth.iv 486662 b x1 y1 x2 y2))) := by
  have H := start_s (fv b) (fv x1) (fv y1) (fv x2) (fv y2) f1 f2 w
  by_cases hx : x1 = x2
  · obtain ⟨c1, hc1⟩ : ∃ z, z = x1 * x1 := ⟨_, rfl⟩
    obtain ⟨c2, hc2⟩ : ∃ z, z = 3 * c1 := ⟨_, rfl⟩
    obtain ⟨c3, hc3⟩ : ∃ z, z = 2 * 486662 * x1 := ⟨_, rfl⟩
    obtain ⟨c4, hc4⟩ : ∃ z, z = c2 + c3 := ⟨_, rfl⟩
    obtain ⟨c5, hc5⟩ : ∃ z, z = c4 + 1 := ⟨_, rfl⟩
    obtain ⟨c6, hc6⟩ : ∃ z, z = b * y1 := ⟨_, rfl⟩
    obtain ⟨c7, hc7⟩ : ∃ z, z = 2 * c6 := ⟨_, rfl⟩
    obtain ⟨c8, hc8⟩ : ∃ z, z = Mth.iv c7 := ⟨_, rfl⟩
    obtain ⟨c9, hc9⟩ : ∃ z, z = c5 * c8 := ⟨_, rfl⟩
    have E : slopeF Mth.iv 486662 b x1 y1 x2 y2 = c9 := by unfold slopeF; rw [if_pos hx, hc9, hc8, hc7, hc6, hc5, hc4, hc3, hc2, hc1]
    rw [E]
    clear E
    replace hc1 := hid hc1
    replace hc2 := hid hc2
    replace hc3 := hid hc3
    replace hc4 := hid hc4
    replace hc5 := hid hc5
    replace hc6 := hid hc6
    replace hc7 := hid hc7
    replace hc8 := hid hc8
    replace hc9 := hid hc9
    have D := hid (decide_eq_true hx)
    clear hx
    go_enter Tryd.func55, Tryd.ntmps55
    go_wp2_with (first | (go_at_call 30; (with_reducible refine (prime_any _).mono ?_); rintro e w1 ⟨rfl, hb⟩; replace H := hid (H.out.call hb).zero; clear hb) | (refine store_n rfl _ _ rfl w1.heap.size pI rfl rfl [] H.out ?_; intro w2 G; clear H) | (refine load_px rfl _ rfl (w.heap.size + 1) _ _ _ rfl (G.out.mid [_, _, _]) ?_) | (refine load_px rfl _ rfl (w.heap.size + 1 + 1) _ _ _ rfl (G.out.mid [_, _]) ?_) | (refine eql_f rfl _ _ _ rfl x1 x2 rfl rfl true D.out.symm ?_) | (refine store_n rfl _ _ rfl w2.heap.size (fv x1) rfl rfl [] G.out.zero ?_; intro w3 G2; clear G))
    generalize w1.heap.size = b7 at *
    generalize w2.heap.size = b8 at *
    have H := G2
    clear G2
    refine region_free [0, 1, 2, 3, 4, 5, 6, 7, 8, 9, 10, 11, 12, 13] [13] [0, 1, 2, 3, 4, 5, 6, 7, 8, 9, 10, 11, 12] [.agg (NV (fv 3)), .agg (NV (fv x1)), .agg (NV (fv x1)), .agg (NV (fv c1)), .agg (NV (fv c2)), .agg (NV (fv (2 * 486662))), .agg (NV (fv x1)), .agg (NV (fv c3)), .agg (NV (pI)), .agg (NV (fv c4)), .agg (NV (fv 1)), .agg (NV (pI)), .agg (NV (fv c5)), undef, undef] #[true, true, true, true, true, true, true, true, true, true, true, true, true, true, false] 1 (fun act β => ((((((((((((((act.put (some 18) (.agg (NV (fv 3)))).put (some 19) (.agg (NV (fv x1)))).put (some 20) (.agg (NV (fv x1)))).put (some 21) (.agg (NV (fv c1)))).put (some 22) (.agg (NV (fv c2)))).put (some 23) (.agg (NV (fv (2 * 486662))))).put (some 24) (.agg (NV (fv x1)))).put (some 25) (.agg (NV (fv c3)))).put (some 26) (.agg (NV (pI)))).put (some 27) (.agg (NV (fv c4)))).put (some 28) (.agg (NV (fv 1)))).put (some 29) (.agg (NV (pI)))).put (some 30) (.agg (NV (fv c5)))).put (some 9) (.pointer (some ⟨β 13, 0, none⟩)))) (by kernel_rfl) (by kernel_rfl) (by kernel_rfl) (by kernel_rfl) (by kernel_rfl) (fun β => by kernel_rfl) ⟨fun β w1 hb => givesAt_of ({ dst := some 18, op := Op.call { callee := Callee.value (Operand.func 31), args := #[Operand.const (Value.int IntKind.u64 3)], argTypes := #[41] }, type := 43, pos := "ladder.go:60", after := #[], guard := none }) (by kernel_rfl) (gives_call rfl ent31 #[.int .u64 3] (by kernel_rfl) (s_fv 3 3 (by decide) (by decide) cThree _)), fun β w1 hb => givesAt_of ({ dst := some 19, op := Op.load 43 (Operand.tmp 8), type := 43, pos := "ladder.go:60", after := #[], guard := none }) (by kernel_rfl) (gives_load43 (.tmp 8) rfl (b8) (fv x1) (by kernel_rfl) (kept_obj (H.out.mid []) hb)), fun β w1 hb => givesAt_of ({ dst := some 20, op := Op.load 43 (Operand.tmp 8), type := 43, pos := "ladder.go:60", after := #[], guard := none }) (by kernel_rfl) (gives_load43 (.tmp 8) rfl (b8) (fv x1) (by kernel_rfl) (kept_obj (H.out.mid []) hb)), fun β w1 hb => givesAt_of ({ dst := some 21, op := Op.call { callee := Callee.value (Operand.func 36), args := #[Operand.tmp 19, Operand.tmp 20], argTypes := #[43, 43] }, type := 43, pos := "ladder.go:60", after := #[{ on := 1, ground := Ground.data }, { on := 2, ground := Ground.data }, { on := 0, ground := Ground.chain }], guard := none }) (by kernel_rfl) (gives_call rfl ent36 #[.agg (NV (fv x1)), .agg (NV (fv x1))] (by kernel_rfl) (times_e x1 x1 c1 hc1 _)), fun β w1 hb => givesAt_of ({ dst := some 22, op := Op.call { callee := Callee.value (Operand.func 36), args := #[Operand.tmp 18, Operand.tmp 21], argTypes := #[43, 43] }, type := 43, pos := "ladder.go:60", after := #[{ on := 0, ground := Ground.data }, { on := 3, ground := Ground.data }, { on := 3, ground := Ground.chain }], guard := none }) (by kernel_rfl) (gives_call rfl ent36 #[.agg (NV (fv 3)), .agg (NV (fv c1))] (by kernel_rfl) (times_e 3 c1 c2 hc2 _)), fun β w1 hb => givesAt_of ({ dst := some 23, op := Op.call { callee := Callee.value (Operand.func 31), args := #[Operand.const (Value.int IntKind.u64 973324)], argTypes := #[41] }, type := 43, pos := "ladder.go:60", after := #[{ on := 4, ground := Ground.chain }], guard := none }) (by kernel_rfl) (gives_call rfl ent31 #[.int .u64 973324] (by kernel_rfl) (s_fv (2 * 486662) 973324 (by decide) (by decide) cDbl _)), fun β w1 hb => givesAt_of ({ dst := some 24, op := Op.load 43 (Operand.tmp 8), type := 43, pos := "ladder.go:60", after := #[], guard := none }) (by kernel_rfl) (gives_load43 (.tmp 8) rfl (b8) (fv x1) (by kernel_rfl) (kept_obj (H.out.mid []) hb)), fun β w1 hb => givesAt_of ({ dst := some 25, op := Op.call { callee := Callee.value (Operand.func 36), args := #[Operand.tmp 23, Operand.tmp 24], argTypes := #[43, 43] }, type := 43, pos := "ladder.go:60", after := #[{ on := 5, ground := Ground.data }, { on := 6, ground := Ground.data }, { on := 5, ground := Ground.chain }], guard := none }) (by kernel_rfl) (gives_call rfl ent36 #[.agg (NV (fv (2 * 486662))), .agg (NV (fv x1))] (by kernel_rfl) (times_e (2 * 486662) x1 c3 hc3 _)), fun β w1 hb => givesAt_of ({ dst := some 26, op := Op.load 43 (Operand.tmp 7), type := 43, pos := "ladder.go:60", after := #[], guard := none }) (by kernel_rfl) (gives_load43 (.tmp 7) rfl (b7) (pI) (by kernel_rfl) (kept_obj (H.out.mid [_]) hb)), fun β w1 hb => givesAt_of ({ dst := some 27, op := Op.call { callee := Callee.value (Operand.func 34), args := #[Operand.tmp 22, Operand.tmp 25, Operand.tmp 26], argTypes := #[43, 43, 43] }, type := 43, pos := "ladder.go:60", after := #[{ on := 4, ground := Ground.data }, { on := 7, ground := Ground.data }, { on := 8, ground := Ground.data }, { on := 7, ground := Ground.chain }], guard := none }) (by kernel_rfl) (gives_call rfl ent34 #[.agg (NV (fv c2)), .agg (NV (fv c3)), .agg (NV pI)] (by kernel_rfl) (plus_e c2 c3 c4 hc4 _)), fun β w1 hb => givesAt_of ({ dst := some 28, op := Op.call { callee := Callee.value (Operand.func 31), args := #[Operand.const (Value.int IntKind.u64 1)], argTypes := #[41] }, type := 43, pos := "ladder.go:60", after := #[{ on := 9, ground := Ground.chain }], guard := none }) (by kernel_rfl) (gives_call rfl ent31 #[.int .u64 1] (by kernel_rfl) (s_fv 1 1 (by decide) (by decide) fv_one.symm _)), fun β w1 hb => givesAt_of ({ dst := some 29, op := Op.load 43 (Operand.tmp 7), type := 43, pos := "ladder.go:60", after := #[], guard := none }) (by kernel_rfl) (gives_load43 (.tmp 7) rfl (b7) (pI) (by kernel_rfl) (kept_obj (H.out.mid [_]) hb)), fun β w1 hb => givesAt_of ({ dst := some 30, op := Op.call { callee := Callee.value (Operand.func 34), args := #[Operand.tmp 27, Operand.tmp 28, Operand.tmp 29], argTypes := #[43, 43, 43] }, type := 43, pos := "ladder.go:60", after := #[{ on := 9, ground := Ground.data }, { on := 10, ground := Ground.data }, { on := 11, ground := Ground.data }, { on := 10, ground := Ground.chain }], guard := none }) (by kernel_rfl) (gives_call rfl ent34 #[.agg (NV (fv c4)), .agg (NV (fv 1)), .agg (NV pI)] (by kernel_rfl) (plus_e c4 1 c5 hc5 _)), trivial⟩ (fun β W hB hL => ?_)
    simp only [Act.put, List.setIfInBounds_toArray, List.set_cons_zero, List.set_cons_succ]
    have H1 := hL.sto H.out hB (by decide) (by decide)
    simp only [List.map_cons, List.map_nil, List.cons_append, List.nil_append] at H1
    generalize β 13 = b9 at *
    refine wpAnyH_store (i := 14) (by kernel_rfl) ({ dst := none, op := Op.store 43 (Operand.tmp 9) (Operand.tmp 30), type := 0, pos := "ladder.go:60", after := #[{ on := 13, ground := Ground.data }, { on := 12, ground := Ground.data }, { on := 12, ground := Ground.chain }, { on := 0, ground := Ground.phase }, { on := 1, ground := Ground.phase }, { on := 2, ground := Ground.phase }, { on := 3, ground := Ground.phase }, { on := 4, ground := Ground.phase }, { on := 5, ground := Ground.phase }, { on := 6, ground := Ground.phase }, { on := 7, ground := Ground.phase }, { on := 8, ground := Ground.phase }, { on := 9, ground := Ground.phase }, { on := 10, ground := Ground.phase }, { on := 11, ground := Ground.phase }, { on := 12, ground := Ground.phase }, { on := 13, ground := Ground.phase }], guard := none }) (by kernel_rfl) rfl rfl (.tmp 9) (.tmp 30) rfl (b9) (fv c5) (by kernel_rfl) (by kernel_rfl) [] (H1) (fun W2 H2 => ?_)
    refine wpAnyH_end (by kernel_rfl) ?_
    replace H := hid H2
    clear hB hL H1 H2
    go_wp2_with fail
    refine region_free [0, 1, 2, 3, 4, 5, 6, 7, 8] [] [0, 1, 2, 3, 4, 5, 6, 7, 8] [.agg (NV (fv c5)), .agg (NV (fv 2)), .agg (NV (fv b)), .pointer (some ⟨w.heap.size + 1, 8, none⟩), .agg (NV (fv y1)), .agg (NV (fv c6)), .agg (NV (fv c7)), .agg (NV (fv c8)), .agg (NV (fv c9)), undef] #[true, true, true, true, true, true, true, true, true, false] 1 (fun act _ => (((((((((act.put (some 31) (.agg (NV (fv c5)))).put (some 32) (.agg (NV (fv 2)))).put (some 33) (.agg (NV (fv b)))).put (some 34) (.pointer (some ⟨w.heap.size + 1, 8, none⟩))).put (some 35) (.agg (NV (fv y1)))).put (some 36) (.agg (NV (fv c6)))).put (some 37) (.agg (NV (fv c7)))).put (some 38) (.agg (NV (fv c8)))).put (some 39) (.agg (NV (fv c9))))) (by kernel_rfl) (by kernel_rfl) (by kernel_rfl) (by kernel_rfl) (by kernel_rfl) (fun β => by kernel_rfl) ⟨fun β w1 hb => givesAt_of ({ dst := some 31, op := Op.load 43 (Operand.tmp 9), type := 43, pos := "ladder.go:61", after := #[], guard := none }) (by kernel_rfl) (gives_load43 (.tmp 9) rfl (b9) (fv c5) (by kernel_rfl) (kept_obj (H.out.mid []) hb)), fun β w1 hb => givesAt_of ({ dst := some 32, op := Op.call { callee := Callee.value (Operand.func 31), args := #[Operand.const (Value.int IntKind.u64 2)], argTypes := #[41] }, type := 43, pos := "ladder.go:61", after := #[], guard := none }) (by kernel_rfl) (gives_call rfl ent31 #[.int .u64 2] (by kernel_rfl) (s_fv 2 2 (by decide) (by decide) cTwo _)), fun β w1 hb => givesAt_of ({ dst := some 33, op := Op.load 43 (Operand.tmp 3), type := 43, pos := "ladder.go:61", after := #[], guard := none }) (by kernel_rfl) (gives_load43 (.tmp 3) rfl (w.heap.size) (fv b) (by kernel_rfl) (kept_obj (H.out.mid [_, _, _, _, _, _]) hb)), fun β w1 hb => givesAt_of ({ dst := some 34, op := Op.fieldAddr 55 (Operand.tmp 4) 1, type := 0, pos := "ladder.go:61", after := #[], guard := none }) (by kernel_rfl) (gives_val (by kernel_rfl)), fun β w1 hb => givesAt_of ({ dst := some 35, op := Op.load 43 (Operand.tmp 34), type := 43, pos := "ladder.go:61", after := #[{ on := 3, ground := Ground.data }], guard := none }) (by kernel_rfl) (gives_py (.tmp 34) rfl (w.heap.size + 1) (fv x1) (fv y1) f1 (by kernel_rfl) (kept_obj (H.out.mid [_, _, _, _, _]) hb)), fun β w1 hb => givesAt_of ({ dst := some 36, op := Op.call { callee := Callee.value (Operand.func 36), args := #[Operand.tmp 33, Operand.tmp 35], argTypes := #[43, 43] }, type := 43, pos := "ladder.go:61", after := #[{ on := 2, ground := Ground.data }, { on := 4, ground := Ground.data }, { on := 1, ground := Ground.chain }], guard := none }) (by kernel_rfl) (gives_call rfl ent36 #[.agg (NV (fv b)), .agg (NV (fv y1))] (by kernel_rfl) (times_e b y1 c6 hc6 _)), fun β w1 hb => givesAt_of ({ dst := some 37, op := Op.call { callee := Callee.value (Operand.func 36), args := #[Operand.tmp 32, Operand.tmp 36], argTypes := #[43, 43] }, type := 43, pos := "ladder.go:61", after := #[{ on := 1, ground := Ground.data }, { on := 5, ground := Ground.data }, { on := 5, ground := Ground.chain }], guard := none }) (by kernel_rfl) (gives_call rfl ent36 #[.agg (NV (fv 2)), .agg (NV (fv c6))] (by kernel_rfl) (times_e 2 c6 c7 hc7 _)), fun β w1 hb => givesAt_of ({ dst := some 38, op := Op.call { callee := Callee.value (Operand.func 38), args := #[Operand.tmp 37], argTypes := #[43] }, type := 43, pos := "ladder.go:61", after := #[{ on := 6, ground := Ground.data }, { on := 6, ground := Ground.chain }], guard := none }) (by kernel_rfl) (gives_call rfl ent38 #[.agg (NV (fv c7))] (by kernel_rfl) (inverse_e c7 c8 hc8 _)), fun β w1 hb => givesAt_of ({ dst := some 39, op := Op.call { callee := Callee.value (Operand.func 36), args := #[Operand.tmp 31, Operand.tmp 38], argTypes := #[43, 43] }, type := 43, pos := "ladder.go:61", after := #[{ on := 0, ground := Ground.data }, { on := 7, ground := Ground.data }, { on := 7, ground := Ground.chain }], guard := none }) (by kernel_rfl) (gives_call rfl ent36 #[.agg (NV (fv c5)), .agg (NV (fv c8))] (by kernel_rfl) (times_e c5 c8 c9 hc9 _)), trivial⟩ (fun β W hB hL => ?_)
    simp only [Act.put, List.setIfInBounds_toArray, List.set_cons_zero, List.set_cons_succ]
    refine wpAnyH_store (i := 9) (by kernel_rfl) ({ dst := none, op := Op.store 43 (Operand.tmp 6) (Operand.tmp 39), type := 0, pos := "ladder.go:61", after := #[{ on := 8, ground := Ground.data }, { on := 8, ground := Ground.chain }, { on := 0, ground := Ground.phase }, { on := 1, ground := Ground.phase }, { on := 2, ground := Ground.phase }, { on := 3, ground := Ground.phase }, { on := 4, ground := Ground.phase }, { on := 5, ground := Ground.phase }, { on := 6, ground := Ground.phase }, { on := 7, ground := Ground.phase }, { on := 8, ground := Ground.phase }], guard := none }) (by kernel_rfl) rfl rfl (.tmp 6) (.tmp 39) rfl (w.heap.size + 1 + 1 + 1) (fv c9) (by kernel_rfl) (by kernel_rfl) [_, _, _] (H.out.call hB) (fun W2 H2 => ?_)
    refine wpAnyH_end (by kernel_rfl) ?_
    have H3 := hid H2
    clear H H2 hB hL
    go_wp2_with fail
    exact ret_n (p := 6) rfl rfl (H3.out.mid [_, _, _]) rfl ⟨rfl, H3.out.below⟩
  · obtain ⟨c1, hc1⟩ : ∃ z, z = y2 - y1 := ⟨_, rfl⟩
    obtain ⟨c2, hc2⟩ : ∃ z, z = x2 - x1 := ⟨_, rfl⟩
    obtain ⟨c3, hc3⟩ : ∃ z, z = Mth.iv c2 := ⟨_, rfl⟩
    obtain ⟨c4, hc4⟩ : ∃ z, z = c1 * c3 := ⟨_, rfl⟩
    have E : slopeF Mth.iv 486662 b x1 y1 x2 y2 = c4 := by unfold slopeF; rw [if_neg hx, hc4, hc3, hc2, hc1]
    rw [E]
    clear E
    replace hc1 := hid hc1
    replace hc2 := hid hc2
    replace hc3 := hid hc3
    replace hc4 := hid hc4
    have D := hid (decide_eq_false hx)
    clear hx
    go_enter Tryd.func55, Tryd.ntmps55
    go_wp2_with (first | (go_at_call 30; (with_reducible refine (prime_any _).mono ?_); rintro e w1 ⟨rfl, hb⟩; replace H := hid (H.out.call hb).zero; clear hb) | (refine store_n rfl _ _ rfl w1.heap.size pI rfl rfl [] H.out ?_; intro w2 G; clear H) | (refine load_px rfl _ rfl (w.heap.size + 1) _ _ _ rfl (G.out.mid [_, _, _]) ?_) | (refine load_px rfl _ rfl (w.heap.size + 1 + 1) _ _ _ rfl (G.out.mid [_, _]) ?_) | (refine eql_f rfl _ _ _ rfl x1 x2 rfl rfl false D.out.symm ?_))
    generalize w1.heap.size = b7 at *
    have H := G
    clear G
    refine region_free [0, 1, 2, 3, 4, 5, 6, 7, 8, 9, 10, 11, 12, 13] [] [0, 1, 2, 3, 4, 5, 6, 7, 8, 9, 10, 11, 12, 13] [.pointer (some ⟨w.heap.size + 1 + 1, 8, none⟩), .agg (NV (fv y2)), .pointer (some ⟨w.heap.size + 1, 8, none⟩), .agg (NV (fv y1)), .agg (NV (pI)), .agg (NV (fv c1)), .pointer (some ⟨w.heap.size + 1 + 1, 0, none⟩), .agg (NV (fv x2)), .pointer (some ⟨w.heap.size + 1, 0, none⟩), .agg (NV (fv x1)), .agg (NV (pI)), .agg (NV (fv c2)), .agg (NV (fv c3)), .agg (NV (fv c4)), undef] #[true, true, true, true, true, true, true, true, true, true, true, true, true, true, false] 1 (fun act _ => ((((((((((((((act.put (some 40) (.pointer (some ⟨w.heap.size + 1 + 1, 8, none⟩))).put (some 41) (.agg (NV (fv y2)))).put (some 42) (.pointer (some ⟨w.heap.size + 1, 8, none⟩))).put (some 43) (.agg (NV (fv y1)))).put (some 44) (.agg (NV (pI)))).put (some 45) (.agg (NV (fv c1)))).put (some 46) (.pointer (some ⟨w.heap.size + 1 + 1, 0, none⟩))).put (some 47) (.agg (NV (fv x2)))).put (some 48) (.pointer (some ⟨w.heap.size + 1, 0, none⟩))).put (some 49) (.agg (NV (fv x1)))).put (some 50) (.agg (NV (pI)))).put (some 51) (.agg (NV (fv c2)))).put (some 52) (.agg (NV (fv c3)))).put (some 53) (.agg (NV (fv c4))))) (by kernel_rfl) (by kernel_rfl) (by kernel_rfl) (by kernel_rfl) (by kernel_rfl) (fun β => by kernel_rfl) ⟨fun β w1 hb => givesAt_of ({ dst := some 40, op := Op.fieldAddr 55 (Operand.tmp 5) 1, type := 0, pos := "ladder.go:63", after := #[], guard := none }) (by kernel_rfl) (gives_val (by kernel_rfl)), fun β w1 hb => givesAt_of ({ dst := some 41, op := Op.load 43 (Operand.tmp 40), type := 43, pos := "ladder.go:63", after := #[{ on := 0, ground := Ground.data }], guard := none }) (by kernel_rfl) (gives_py (.tmp 40) rfl (w.heap.size + 1 + 1) (fv x2) (fv y2) f2 (by kernel_rfl) (kept_obj (H.out.mid [_, _]) hb)), fun β w1 hb => givesAt_of ({ dst := some 42, op := Op.fieldAddr 55 (Operand.tmp 4) 1, type := 0, pos := "ladder.go:63", after := #[], guard := none }) (by kernel_rfl) (gives_val (by kernel_rfl)), fun β w1 hb => givesAt_of ({ dst := some 43, op := Op.load 43 (Operand.tmp 42), type := 43, pos := "ladder.go:63", after := #[{ on := 2, ground := Ground.data }], guard := none }) (by kernel_rfl) (gives_py (.tmp 42) rfl (w.heap.size + 1) (fv x1) (fv y1) f1 (by kernel_rfl) (kept_obj (H.out.mid [_, _, _]) hb)), fun β w1 hb => givesAt_of ({ dst := some 44, op := Op.load 43 (Operand.tmp 7), type := 43, pos := "ladder.go:63", after := #[], guard := none }) (by kernel_rfl) (gives_load43 (.tmp 7) rfl (b7) (pI) (by kernel_rfl) (kept_obj (H.out.mid []) hb)), fun β w1 hb => givesAt_of ({ dst := some 45, op := Op.call { callee := Callee.value (Operand.func 35), args := #[Operand.tmp 41, Operand.tmp 43, Operand.tmp 44], argTypes := #[43, 43, 43] }, type := 43, pos := "ladder.go:63", after := #[{ on := 1, ground := Ground.data }, { on := 3, ground := Ground.data }, { on := 4, ground := Ground.data }], guard := none }) (by kernel_rfl) (gives_call rfl ent35 #[.agg (NV (fv y2)), .agg (NV (fv y1)), .agg (NV pI)] (by kernel_rfl) (minus_e y2 y1 c1 hc1 _)), fun β w1 hb => givesAt_of ({ dst := some 46, op := Op.fieldAddr 55 (Operand.tmp 5) 0, type := 0, pos := "ladder.go:63", after := #[], guard := none }) (by kernel_rfl) (gives_val (by kernel_rfl)), fun β w1 hb => givesAt_of ({ dst := some 47, op := Op.load 43 (Operand.tmp 46), type := 43, pos := "ladder.go:63", after := #[{ on := 6, ground := Ground.data }], guard := none }) (by kernel_rfl) (gives_px (.tmp 46) rfl (w.heap.size + 1 + 1) (fv x2) (fv y2) f2 (by kernel_rfl) (kept_obj (H.out.mid [_, _]) hb)), fun β w1 hb => givesAt_of ({ dst := some 48, op := Op.fieldAddr 55 (Operand.tmp 4) 0, type := 0, pos := "ladder.go:63", after := #[], guard := none }) (by kernel_rfl) (gives_val (by kernel_rfl)), fun β w1 hb => givesAt_of ({ dst := some 49, op := Op.load 43 (Operand.tmp 48), type := 43, pos := "ladder.go:63", after := #[{ on := 8, ground := Ground.data }], guard := none }) (by kernel_rfl) (gives_px (.tmp 48) rfl (w.heap.size + 1) (fv x1) (fv y1) f1 (by kernel_rfl) (kept_obj (H.out.mid [_, _, _]) hb)), fun β w1 hb => givesAt_of ({ dst := some 50, op := Op.load 43 (Operand.tmp 7), type := 43, pos := "ladder.go:63", after := #[], guard := none }) (by kernel_rfl) (gives_load43 (.tmp 7) rfl (b7) (pI) (by kernel_rfl) (kept_obj (H.out.mid []) hb)), fun β w1 hb => givesAt_of ({ dst := some 51, op := Op.call { callee := Callee.value (Operand.func 35), args := #[Operand.tmp 47, Operand.tmp 49, Operand.tmp 50], argTypes := #[43, 43, 43] }, type := 43, pos := "ladder.go:63", after := #[{ on := 7, ground := Ground.data }, { on := 9, ground := Ground.data }, { on := 10, ground := Ground.data }, { on := 5, ground := Ground.chain }], guard := none }) (by kernel_rfl) (gives_call rfl ent35 #[.agg (NV (fv x2)), .agg (NV (fv x1)), .agg (NV pI)] (by kernel_rfl) (minus_e x2 x1 c2 hc2 _)), fun β w1 hb => givesAt_of ({ dst := some 52, op := Op.call { callee := Callee.value (Operand.func 38), args := #[Operand.tmp 51], argTypes := #[43] }, type := 43, pos := "ladder.go:63", after := #[{ on := 11, ground := Ground.data }, { on := 11, ground := Ground.chain }], guard := none }) (by kernel_rfl) (gives_call rfl ent38 #[.agg (NV (fv c2))] (by kernel_rfl) (inverse_e c2 c3 hc3 _)), fun β w1 hb => givesAt_of ({ dst := some 53, op := Op.call { callee := Callee.value (Operand.func 36), args := #[Operand.tmp 45, Operand.tmp 52], argTypes := #[43, 43] }, type := 43, pos := "ladder.go:63", after := #[{ on := 5, ground := Ground.data }, { on := 12, ground := Ground.data }, { on := 12, ground := Ground.chain }], guard := none }) (by kernel_rfl) (gives_call rfl ent36 #[.agg (NV (fv c1)), .agg (NV (fv c3))] (by kernel_rfl) (times_e c1 c3 c4 hc4 _)), trivial⟩ (fun β W hB hL => ?_)
    simp only [Act.put, List.setIfInBounds_toArray, List.set_cons_zero, List.set_cons_succ]
    refine wpAnyH_store (i := 14) (by kernel_rfl) ({ dst := none, op := Op.store 43 (Operand.tmp 6) (Operand.tmp 53), type := 0, pos := "ladder.go:63", after := #[{ on := 13, ground := Ground.data }, { on := 13, ground := Ground.chain }, { on := 0, ground := Ground.phase }, { on := 1, ground := Ground.phase }, { on := 2, ground := Ground.phase }, { on := 3, ground := Ground.phase }, { on := 4, ground := Ground.phase }, { on := 5, ground := Ground.phase }, { on := 6, ground := Ground.phase }, { on := 7, ground := Ground.phase }, { on := 8, ground := Ground.phase }, { on := 9, ground := Ground.phase }, { on := 10, ground := Ground.phase }, { on := 11, ground := Ground.phase }, { on := 12, ground := Ground.phase }, { on := 13, ground := Ground.phase }], guard := none }) (by kernel_rfl) rfl rfl (.tmp 6) (.tmp 53) rfl (w.heap.size + 1 + 1 + 1) (fv c4) (by kernel_rfl) (by kernel_rfl) [_] (H.out.call hB) (fun W2 H2 => ?_)
    refine wpAnyH_end (by kernel_rfl) ?_
    have H3 := hid H2
    clear H H2 hB hL
    go_wp2_with fail
    exact ret_n (p := 6) rfl rfl (H3.out.mid [_]) rfl ⟨rfl, H3.out.below⟩
end Go.Proofs.YtflmkgecgijncaaDoor
