/-
  The rule of S2, in the form in which it is used; what calls, loads and new blocks give.
-/
import Derived.Test.YtflmkgecgijncaaDoorS6
namespace Go.Proofs.YtflmkgecgijncaaDoor
open Go.RowKit Go.Shelf Mth

/-- A call of f is entered. -/
def Ent (f : FuncId) : Prop := ∀ (args : Array Value) (w : World), (callFunc f args).run Tryd.prog w = .ok (.enter f args) w
theorem ent_of {f : FuncId} {fn : Func} (hf : Tryd.prog.funcs[f]? = some fn) (hname : (fn.name == "runtime.NumGoroutine") = false) (hb : fn.body.isSome = true) : Ent f := by
  intro args w
  obtain ⟨c, hc⟩ := Option.isSome_iff_exists.1 hb
  have h1 : fn.name ≠ "runtime.NumGoroutine" := by simpa using hname
  simp [callFunc, hf, h1, hc]

theorem execOp_call_fn {o : Oper} {ρ : Operand → Value} {f : FuncId} {xs : Array Operand} {ats : Array TypeId} (hop : o.op = .call { callee := .value (.func f), args := xs, argTypes := ats }) (ef : ρ (.func f) = .func (.func f) #[] #[]) :
    execOp ρ o = callFunc f (xs.map ρ) := by
  unfold execOp
  simp [hop, resolve, Deferred.ofValue, invoke, ef]

structure GivesAt (P : Program) (ops : Array Oper) (j : Nat) (ρ : Operand → Value) (w : World) (R : Value → World → Prop) : Prop where
  out : ∀ o, ops[j]? = some o → Gives P o ρ w R
theorem givesAt_of {P : Program} {ops : Array Oper} {j : Nat} {ρ : Operand → Value} {w : World} {R : Value → World → Prop} (o : Oper) (h : ops[j]? = some o) (g : Gives P o ρ w R) : GivesAt P ops j ρ w R := by
  refine ⟨?_⟩; intro o' h'; rw [h] at h'; cases h'; exact g

theorem gives_call {o : Oper} {a : Act} {w : World} {v : Value} {f : FuncId} {xs : Array Operand} {ats : Array TypeId} (hop : o.op = .call { callee := .value (.func f), args := xs, argTypes := ats }) (he : Ent f) (args : Array Value) (ha : xs.map a.eval = args)
    (hc : Calls Tryd.prog f args w fun e w' => e = .returned v ∧ Below w.heap.size w w') : Gives Tryd.prog o a.eval w fun v' w' => v' = v ∧ Below w.heap.size w w' := by
  refine ⟨?_⟩
  unfold GivesD
  rw [execOp_call_fn hop rfl, ha, he]
  exact hc.mono fun e w' ⟨h1, h2⟩ => ⟨v, h1, rfl, h2⟩

theorem gives_load43 {o : Oper} {ρ : Operand → Value} {w : World} (x : Operand) (ho : o.op = .load 43 x) (g : Nat) (V : Int) (hx : ρ x = .pointer (some ⟨g, 0, none⟩)) (hg : w.heap[g]? = some (nob V)) :
    Gives Tryd.prog o ρ w fun v w' => v = .agg (NV V) ∧ Below w.heap.size w w' := by
  refine ⟨?_⟩
  unfold GivesD execOp
  simp only [ho, hx, Instr.loadAt, Instr.sureAddr, Sem.run_bind, Sem.run_pure, Result.andThen_ok, run_loadVar_row w g 43 43 (NV V) (0, 0) _ hg Tryd.underlying43 rfl (by rw [info43, NV_size])]
  exact ⟨trivial, Below.refl _ _⟩

theorem gives_load22 {o : Oper} {ρ : Operand → Value} {w : World} (x : Operand) (ho : o.op = .load 22 x) (g : Nat) (f : Nat → Int) (hx : ρ x = .pointer (some ⟨g, 0, none⟩)) (hg : w.heap[g]? = some (aob f)) :
    Gives Tryd.prog o ρ w fun v w' => v = av f ∧ Below w.heap.size w w' := by
  refine ⟨?_⟩
  unfold GivesD execOp
  simp only [ho, hx, Instr.loadAt, Instr.sureAddr, Sem.run_bind, Sem.run_pure, Result.andThen_ok, run_loadVar_row w g 22 22 (bvals f).toArray (0, 0) _ hg Tryd.underlying22 rfl (by rw [info22]; simp [bvals_len])]
  exact ⟨rfl, Below.refl _ _⟩

theorem gives_val {o : Oper} {ρ : Operand → Value} {w : World} {v : Value} (h : (execOp ρ o).run Tryd.prog w = .ok (.value v) w) : Gives Tryd.prog o ρ w fun v' w' => v' = v ∧ Below w.heap.size w w' := by
  refine ⟨?_⟩; unfold GivesD; rw [h]; exact ⟨rfl, Below.refl _ _⟩

theorem gives_alloc43 {o : Oper} {ρ : Operand → Value} {w : World} (ho : o.op = .alloc 43) : Gives Tryd.prog o ρ w fun v w' => v = .pointer (some ⟨w.heap.size, 0, none⟩) ∧ w' = w.alloc (nob 0) := by
  refine ⟨?_⟩
  unfold GivesD execOp
  rw [← dob_new]
  simp [ho, go_sem]

/-- p of each of the list. -/
def AllL (p : Nat → Prop) : List Nat → Prop
  | [] => True
  | j :: L => p j ∧ AllL p L
theorem AllL.at {p : Nat → Prop} : ∀ {L : List Nat}, AllL p L → ∀ j ∈ L, p j
  | _ :: _, h, j, hj => by
    rcases List.mem_cons.1 hj with rfl | r
    · exact h.1
    · exact h.2.at j r

def isAlloc (ops : Array Oper) (t : TypeId) (j : Nat) : Bool := match ops[j]? with
  | some o => match o.op with | .alloc t' => t' == t | _ => false
  | none => false

def cval (cvs : List Value) (j : Nat) : Value := cvs.getD j undef

theorem region_free {ops : Array Oper} {Q : Exit → Act → World → Prop} {id : Nat} {a : Act} {w : World} (L als cs : List Nat) (cvs : List Value) (listed1 : Array Bool) (fuel2 : Nat) (A : Act → (Nat → Nat) → Act)
    (hsz : ops.size = L.length + fuel2) (hfree : freeB ops L (Array.replicate ops.size false) = true) (h1 : L.foldl (fun l j => l.setIfInBounds j true) (Array.replicate ops.size false) = listed1)
    (hL : (L.all fun j => als.contains j || cs.contains j) = true) (hal : (als.all fun j => isAlloc ops 43 j) = true)
    (hA : ∀ β, canonAll ops (fval als.contains (cval cvs) β) L a = A a β)
    (hcall : AllL (fun j => ∀ β w', Below w.heap.size w w' → GivesAt Tryd.prog ops j (A a β).eval w' fun v w'' => v = cval cvs j ∧ Below w'.heap.size w' w'') cs)
    (hfin : ∀ β w', Below w.heap.size w w' → Laid L als.contains (nob 0) w.heap.size β (fun _ => true) w' → wpAnyH Tryd.prog .any ops Q (fun _ => True) fuel2 listed1 (A a β) w') :
    (Code.region id ops true).wp Tryd.prog Q a w := by
  refine wp_region_held_drew (S := fun _ => True) (by kernel_rfl) trivial (fun _ => ?_)
  rw [hsz]
  have conv : ∀ {w'}, Below w.drew.heap.size w.drew w' → Below w.heap.size w w' := fun h => ⟨h.os, h.tape, h.output, h.size, h.block⟩
  have hfree' : freeB ops L (Array.replicate (L.length + fuel2) false) = true := by rw [← hsz]; exact hfree
  refine wpAnyH_free L als.contains (cval cvs) (nob 0) _ listed1 a w.drew fuel2 hfree' (by rw [← hsz]; exact h1) ?_ ?_ (fun _ _ => trivial) ?_
  · intro j hj ha o ho ρ w'
    have hj' : j ∈ als := by simpa using ha
    have := List.all_eq_true.1 hal j hj'
    unfold isAlloc at this
    rw [ho] at this
    simp only at this
    refine gives_alloc43 ?_
    generalize o.op = op at this
    cases op <;> simp at this
    subst this; rfl
  · intro j hj ha o ho β w' hb
    have := List.all_eq_true.1 hL j hj
    rw [ha, Bool.false_or] at this
    have hc : j ∈ cs := by simpa using this
    rw [hA]
    exact (hcall.at j hc β w' (conv hb)).out o ho
  · intro β w' hb hl
    rw [hA]
    exact hfin β w' (conv hb) hl

theorem kept_obj {w w' : World} {g : Nat} {ob : Obj} (h : w.heap[g]? = some ob) (hb : Below w.heap.size w w') : w'.heap[g]? = some ob := (hb.block g (obj_lt h)).trans h

/-- New blocks, of whatever number. -/
theorem Laid.sto {w0 W W2 : World} {B : Nat} {Bs : List (Nat × Obj)} {L als : List Nat} {ob : Obj} {β : Nat → Nat} (hl : Laid L als.contains ob W.heap.size β (fun _ => true) W2) (h : Sto w0 W B Bs) (hb : Below W.heap.size W W2)
    (hsub : (als.all fun j => L.contains j) = true) (hnd : decide als.Nodup = true) : Sto w0 W2 B (als.map (fun j => (β j, ob)) ++ Bs) := by
  have h' := h.call hb
  have hin : ∀ j ∈ als, j ∈ L := fun j hj => by simpa using List.all_eq_true.1 hsub j hj
  have hal : ∀ j ∈ als, als.contains j = true := fun j hj => by simpa using hj
  have hnd' : als.Nodup := of_decide_eq_true hnd
  have got : ∀ j ∈ als, W.heap.size ≤ β j ∧ W2.heap[β j]? = some ob := fun j hj => hl.got j (hin j hj) (hal j hj) rfl
  refine ⟨h'.below, h.size, ?_, ?_, ?_⟩
  · intro t ht
    rcases List.mem_append.1 ht with r | r
    · obtain ⟨j, hj, rfl⟩ := List.mem_map.1 r
      exact Nat.le_trans h.big (got j hj).1
    · exact h.lt t r
  · intro t ht
    rcases List.mem_append.1 ht with r | r
    · obtain ⟨j, hj, rfl⟩ := List.mem_map.1 r
      exact (got j hj).2
    · exact h'.heap t r
  · rw [List.pairwise_append]
    refine ⟨?_, h.ne, fun t ht s hs => ?_⟩
    · rw [List.pairwise_map]
      refine List.Pairwise.imp_of_mem ?_ hnd'
      intro j k hj hk hjk
      exact hl.ne k (hin k hk) j (hin j hj) (hal k hk) (hal j hj) rfl rfl (Ne.symm hjk)
    · obtain ⟨j, hj, rfl⟩ := List.mem_map.1 ht
      have h1 := obj_lt (h.heap s hs)
      have h2 := (got j hj).1
      show s.1 ≠ β j
      omega

/-- As region_free, in the midst of a region, with S kept. -/
theorem free_s {ops : Array Oper} {Q : Exit → Act → World → Prop} {S : World → Prop} {fuel : Nat} {a : Act} {w : World} (L als cs : List Nat) (cvs : List Value) (listed0 listed1 : Array Bool) (fuel2 : Nat) (A : Act → (Nat → Nat) → Act)
    (hfree : freeB ops L listed0 = true) (h1 : L.foldl (fun l j => l.setIfInBounds j true) listed0 = listed1)
    (hL : (L.all fun j => als.contains j || cs.contains j) = true) (hal : (als.all fun j => isAlloc ops 43 j) = true)
    (hA : ∀ β, canonAll ops (fval als.contains (cval cvs) β) L a = A a β)
    (hcall : AllL (fun j => ∀ β w', Below w.heap.size w w' → GivesAt Tryd.prog ops j (A a β).eval w' fun v w'' => v = cval cvs j ∧ Below w'.heap.size w' w'') cs)
    (hS : ∀ w', Below w.heap.size w w' → S w')
    (hfin : ∀ β w', Below w.heap.size w w' → Laid L als.contains (nob 0) w.heap.size β (fun _ => true) w' → wpAnyH Tryd.prog .any ops Q S fuel2 listed1 (A a β) w')
    (hfu : fuel = L.length + fuel2 := by rfl) :
    wpAnyH Tryd.prog .any ops Q S fuel listed0 a w := by
  subst hfu
  refine wpAnyH_free L als.contains (cval cvs) (nob 0) listed0 listed1 a w fuel2 hfree h1 ?_ ?_ hS ?_
  · intro j hj ha o ho ρ w'
    have hj' : j ∈ als := by simpa using ha
    have := List.all_eq_true.1 hal j hj'
    unfold isAlloc at this
    rw [ho] at this
    simp only at this
    refine gives_alloc43 ?_
    generalize o.op = op at this
    cases op <;> simp at this
    subst this; rfl
  · intro j hj ha o ho β w' hb
    have := List.all_eq_true.1 hL j hj
    rw [ha, Bool.false_or] at this
    have hc : j ∈ cs := by simpa using this
    rw [hA]
    exact (hcall.at j hc β w' hb).out o ho
  · intro β w' hb hl
    rw [hA]
    exact hfin β w' hb hl

theorem y_build_n {ops : Array Oper} {S : World → Prop} {o : Oper} {a : Act} (hw : Region.wanted o (yielded ops a.tmps) = true) (parts : Array (Nat × Operand)) (ho : o.op = .build 43 parts) (V : Int) (l : List (Nat × Value)) (hl : (parts.map fun (i, x) => (i, a.eval x)).toList = l)
    (hb : Tryd.prog.built 43 l = some (NV V)) : YieldsIf Tryd.prog ops S o (.agg (NV V)) a := by
  refine Or.inl ⟨hw, fun w _ => ?_⟩
  unfold execOp
  simp only [ho, Sem.run_bind, run_build w 43 _ _ (by rw [hl]; exact hb), Result.andThen_ok]; rfl

/-- A store behind what was drawn, S to be shown anew. -/
theorem store_any {ops : Array Oper} {Q : Exit → Act → World → Prop} {S : World → Prop} {fuel i : Nat} {listed : Array Bool} {a : Act} {w : World} (hr : Region.ready .any ops listed = [i]) (o : Oper) (ho : ops[i]? = some o) (hg : o.guard = none) (hd : o.dst = none)
    (x y : Operand) (hop : o.op = .store 43 x y) (g : Nat) (V : Int) (hx : a.eval x = .pointer (some ⟨g, 0, none⟩)) (hy : a.eval y = .agg (NV V)) {w0 : World} {B : Nat} (l1 : List (Nat × Obj)) {U : Int} {l2 : List (Nat × Obj)} (hS : Sto w0 w B (l1 ++ (g, nob U) :: l2))
    (h : ∀ w', Sto w0 w' B (l1 ++ (g, nob V) :: l2) → S w' ∧ wpAnyH Tryd.prog .any ops Q S fuel (listed.setIfInBounds i true) a w') : wpAnyH Tryd.prog .any ops Q S (fuel + 1) listed a w := by
  refine wpAnyH_all hr (by simp) ?_
  intro j hj
  obtain rfl : j = i := by simpa using hj
  unfold wpOp
  rw [ho]
  have hw : Region.wanted o (yielded ops a.tmps) = true := by unfold Region.wanted; rw [hg]
  simp only [hw, if_true]
  left
  refine wp_store_row 43 x y hop g _ hx hy 43 (NV U) (hS.mid l1) (by rw [info43, NV_size]) (by rw [NV_size, NV_size]) (NV_one V) ?_
  rw [hd]
  exact h _ (hS.row l1)

/-- A store behind all that was drawn. -/
theorem wpAnyH_store {ops : Array Oper} {Q : Exit → Act → World → Prop} {fuel i : Nat} {listed : Array Bool} {a : Act} {w : World} (hr : Region.ready .any ops listed = [i]) (o : Oper) (ho : ops[i]? = some o) (hg : o.guard = none) (hd : o.dst = none)
    (x y : Operand) (hop : o.op = .store 43 x y) (g : Nat) (V : Int) (hx : a.eval x = .pointer (some ⟨g, 0, none⟩)) (hy : a.eval y = .agg (NV V)) {w0 : World} {B : Nat} (l1 : List (Nat × Obj)) {U : Int} {l2 : List (Nat × Obj)} (hS : Sto w0 w B (l1 ++ (g, nob U) :: l2))
    (h : ∀ w', Sto w0 w' B (l1 ++ (g, nob V) :: l2) → wpAnyH Tryd.prog .any ops Q (fun _ => True) fuel (listed.setIfInBounds i true) a w') : wpAnyH Tryd.prog .any ops Q (fun _ => True) (fuel + 1) listed a w := by
  refine wpAnyH_all hr (by simp) ?_
  intro j hj
  obtain rfl : j = i := by simpa using hj
  unfold wpOp
  rw [ho]
  have hw : Region.wanted o (yielded ops a.tmps) = true := by unfold Region.wanted; rw [hg]
  simp only [hw, if_true]
  left
  refine wp_store_row 43 x y hop g _ hx hy 43 (NV U) (hS.mid l1) (by rw [info43, NV_size]) (by rw [NV_size, NV_size]) (NV_one V) ?_
  rw [hd]
  exact ⟨trivial, h _ (hS.row l1)⟩

theorem wpAnyH_end {ops : Array Oper} {Q : Exit → Act → World → Prop} {S : World → Prop} {listed : Array Bool} {a : Act} {w : World} (hr : Region.ready .any ops listed = []) (h : Q .normal a w) : wpAnyH Tryd.prog .any ops Q S 0 listed a w := ⟨hr, h⟩

theorem ent33 : Ent 33 := ent_of Tryd.func33 (by kernel_rfl) (by kernel_rfl)
theorem ent30 : Ent 30 := ent_of Tryd.func30 (by kernel_rfl) (by kernel_rfl)
theorem ent31 : Ent 31 := ent_of Tryd.func31 (by kernel_rfl) (by kernel_rfl)
theorem ent53 : Ent 53 := ent_of Tryd.func53 (by kernel_rfl) (by kernel_rfl)
theorem ent44 : Ent 44 := ent_of Tryd.func44 (by kernel_rfl) (by kernel_rfl)
theorem ent34 : Ent 34 := ent_of Tryd.func34 (by kernel_rfl) (by kernel_rfl)
theorem ent35 : Ent 35 := ent_of Tryd.func35 (by kernel_rfl) (by kernel_rfl)
theorem ent36 : Ent 36 := ent_of Tryd.func36 (by kernel_rfl) (by kernel_rfl)
theorem ent54 : Ent 54 := ent_of Tryd.func54 (by kernel_rfl) (by kernel_rfl)
theorem ent38 : Ent 38 := ent_of Tryd.func38 (by kernel_rfl) (by kernel_rfl)
theorem ent37 : Ent 37 := ent_of Tryd.func37 (by kernel_rfl) (by kernel_rfl)
theorem ent28 : Ent 28 := ent_of Tryd.func28 (by kernel_rfl) (by kernel_rfl)
theorem ent29 : Ent 29 := ent_of Tryd.func29 (by kernel_rfl) (by kernel_rfl)
end Go.Proofs.YtflmkgecgijncaaDoor
