/-
  spec.Multiple, laws.FnMultiple. Printed by gen_multiple.py.
-/
import Derived.Test.YtflmkgecgijncaaDoorS19
namespace Go.Proofs.YtflmkgecgijncaaDoor
open Go.RowKit Go.Shelf Mth

theorem gives_alloc55 {o : Oper} {ρ : Operand → Value} {w : World} (ho : o.op = .alloc 55) : Gives Tryd.prog o ρ w fun v w' => v = .pointer (some ⟨w.heap.size, 0, none⟩) ∧ w' = w.alloc (pob 0 0 false) := by
  refine ⟨?_⟩
  unfold GivesD execOp
  rw [← zero17]
  simp [ho, go_sem]

def mob (ops : Array Oper) (j : Nat) : Obj := if isAlloc ops 55 j then pob 0 0 false else nob 0

theorem isAlloc_op {ops : Array Oper} {t : TypeId} {j : Nat} {o : Oper} (h : isAlloc ops t j = true) (ho : ops[j]? = some o) : o.op = .alloc t := by
  unfold isAlloc at h
  rw [ho] at h
  simp only at h
  generalize o.op = op at h
  cases op <;> simp at h
  subst h; rfl

theorem Laid2.sto {w0 W W2 : World} {B : Nat} {Bs : List (Nat × Obj)} {L als : List Nat} {ob : Nat → Obj} {β : Nat → Nat} (hl : Laid2 L als.contains ob W.heap.size β (fun _ => true) W2) (h : Sto w0 W B Bs) (hb : Below W.heap.size W W2)
    (hsub : (als.all fun j => L.contains j) = true) (hnd : decide als.Nodup = true) : Sto w0 W2 B (als.map (fun j => (β j, ob j)) ++ Bs) := by
  have h' := h.call hb
  have hin : ∀ j ∈ als, j ∈ L := fun j hj => by simpa using List.all_eq_true.1 hsub j hj
  have hal : ∀ j ∈ als, als.contains j = true := fun j hj => by simpa using hj
  have hnd' : als.Nodup := of_decide_eq_true hnd
  have got : ∀ j ∈ als, W.heap.size ≤ β j ∧ W2.heap[β j]? = some (ob j) := fun j hj => hl.got j (hin j hj) (hal j hj) rfl
  refine ⟨h'.below, h.size, ?_, ?_, ?_⟩
  · intro t ht
    rcases List.mem_append.1 ht with r | r
    · obtain ⟨j, hj, rfl⟩ := List.mem_map.1 r
      exact Nat.le_trans h.big (got j hj).1
    · exact h.lt t r
  · intro t ht
    rcases List.mem_append.1 ht with r | r
    · obtain ⟨j, hj, rfl⟩ := List.mem_map.1 r
      exact (got j hj).2
    · exact h'.heap t r
  · rw [List.pairwise_append]
    refine ⟨?_, h.ne, fun t ht s hs => ?_⟩
    · rw [List.pairwise_map]
      refine List.Pairwise.imp_of_mem ?_ hnd'
      intro j k hj hk hjk
      exact hl.ne k (hin k hk) j (hin j hj) (hal k hk) (hal j hj) rfl rfl (Ne.symm hjk)
    · obtain ⟨j, hj, rfl⟩ := List.mem_map.1 ht
      have h1 := obj_lt (h.heap s hs)
      have h2 := (got j hj).1
      show s.1 ≠ β j
      omega

/-- As free_s, with new numbers and places, and one late operation. -/
theorem free_t {ops : Array Oper} {Q : Exit → Act → World → Prop} {S : World → Prop} {fuel : Nat} {a : Act} {w : World} (t : Nat) (L als cs : List Nat) (cvs : List Value) (listed0 listed1 listed2 : Array Bool) (fuel2 : Nat) (A A2 : Act → (Nat → Nat) → Act)
    (hat : als.contains t = false) (hfree : freeB3 ops t L listed0 = true) (h1 : L.foldl (fun l j => l.setIfInBounds j true) listed0 = listed1) (h2 : (L.filter (· != t)).foldl (fun l j => l.setIfInBounds j true) listed0 = listed2)
    (hL : (L.all fun j => als.contains j || cs.contains j) = true) (hal : (als.all fun j => isAlloc ops 43 j || isAlloc ops 55 j) = true)
    (hA : ∀ β, canonAll ops (fval als.contains (cval cvs) β) L a = A a β) (hA2 : ∀ β, canonAll ops (fval als.contains (cval cvs) β) (L.filter (· != t)) a = A2 a β)
    (hcall : AllL (fun j => ∀ β w', Below w.heap.size w w' → GivesAt Tryd.prog ops j (A a β).eval w' fun v w'' => v = cval cvs j ∧ Below w'.heap.size w' w'') cs)
    (hwant : ∀ β, (L.all fun j => match ops[j]? with | some o => Region.wanted o (yielded ops (A a β).tmps) | none => true) = true)
    (hS : ∀ w', Below w.heap.size w w' → S w')
    (hfin : ∀ β w', Below w.heap.size w w' → Laid2 L als.contains (mob ops) w.heap.size β (fun _ => true) w' → wpAnyH Tryd.prog .any ops Q S fuel2 listed1 (A a β) w')
    (hfin2 : (∀ β w', Below w.heap.size w w' → Laid2 L als.contains (mob ops) w.heap.size β (fun _ => true) w' → wpAnyH Tryd.prog .any ops Q S fuel2 listed1 (A a β) w') →
      ∀ β w', Below w.heap.size w w' → Laid2 L als.contains (mob ops) w.heap.size β (fun _ => true) w' → wpAnyH Tryd.prog .any ops Q S (fuel2 + 1) listed2 (A2 a β) w')
    (hfu : fuel = L.length + fuel2 := by rfl) :
    wpAnyH Tryd.prog .any ops Q S fuel listed0 a w := by
  subst hfu
  refine wpAnyH_free3 L als.contains (cval cvs) (mob ops) listed0 listed1 a w fuel2 t hat hfree listed2 h2 h1 ?_ ?_ ?_ hS ?_ ?_
  · intro j hj ha o ho ρ w'
    have hj' : j ∈ als := by simpa using ha
    have := List.all_eq_true.1 hal j hj'
    unfold mob
    cases h55 : isAlloc ops 55 j
    · rw [h55, Bool.or_false] at this
      exact gives_alloc43 (isAlloc_op this ho)
    · exact gives_alloc55 (isAlloc_op h55 ho)
  · intro j hj ha o ho β w' hb
    have := List.all_eq_true.1 hL j hj
    rw [ha, Bool.false_or] at this
    have hc : j ∈ cs := by simpa using this
    rw [hA]
    exact (hcall.at j hc β w' hb).out o ho
  · intro j hj o ho β
    have := List.all_eq_true.1 (hwant β) j hj
    rw [ho] at this
    rw [hA]; exact this
  · intro β w' hb hl
    rw [hA]
    exact hfin β w' hb hl
  · intro β w' hb hl
    rw [hA2]
    exact hfin2 hfin β w' hb hl

theorem y_build55 {ops : Array Oper} {S : World → Prop} {o : Oper} {a : Act} (hw : Region.wanted o (yielded ops a.tmps) = true) (parts : Array (Nat × Operand)) (ho : o.op = .build 55 parts) (V U : Int) (b : Bool) (l : List (Nat × Value)) (hl : (parts.map fun (i, x) => (i, a.eval x)).toList = l)
    (hb : Tryd.prog.built 55 l = some (PV V U b)) : YieldsIf Tryd.prog ops S o (.agg (PV V U b)) a := by
  refine Or.inl ⟨hw, fun w _ => ?_⟩
  unfold execOp
  simp only [ho, Sem.run_bind, run_build w 55 _ _ (by rw [hl]; exact hb), Result.andThen_ok]; rfl

theorem curved_e (x c : Fp) (h : Hid (c = x * (x * (x + 486662) + 1))) (w : World) : Calls Tryd.prog 39 #[.agg (NV (fv x))] w (RetN w (fv c)) := by rw [h.out]; exact curved_f x w
theorem joined_e (b : Fp) (p q r : Option (Fp × Fp)) (h : Hid (r = joinF Mth.iv 486662 b p q)) (w : World) : Calls Tryd.prog 40 #[.agg (NV (fv b)), .agg (PO p), .agg (PO q)] w (RetO w r) := by rw [h.out]; exact joined_f b p q w

/-- A place behind half its cells are laid anew. -/
theorem PV_setY (V U U' : Int) (b : Bool) (w : World) (g : Nat) (h : w.heap[g]? = some (pob V U b)) : (w.setCells g 8 (NV U').toList).heap[g]? = some (pob V U' b) := by
  have e : (NV U').toList = [.int .u64 (dg U' 0), .int .u64 (dg U' 1), .int .u64 (dg U' 2), .int .u64 (dg U' 3), .int .u64 (dg U' 4), .int .u64 (dg U' 5), .int .u64 (dg U' 6), .int .u64 (dg U' 7)] := rfl
  rw [e]
  unfold pob at *
  simp only [World.setCells, World.setCell, Array.getElem?_modify, h, if_true, Option.map_some, Option.isSome_none, Bool.false_eq_true, if_false]
  have k : ((((((((PV V U b).setIfInBounds 8 (.int .u64 (dg U' 0))).setIfInBounds (8 + 1) (.int .u64 (dg U' 1))).setIfInBounds (8 + 1 + 1) (.int .u64 (dg U' 2))).setIfInBounds (8 + 1 + 1 + 1) (.int .u64 (dg U' 3))).setIfInBounds (8 + 1 + 1 + 1 + 1) (.int .u64 (dg U' 4))).setIfInBounds (8 + 1 + 1 + 1 + 1 + 1) (.int .u64 (dg U' 5))).setIfInBounds (8 + 1 + 1 + 1 + 1 + 1 + 1) (.int .u64 (dg U' 6))).setIfInBounds (8 + 1 + 1 + 1 + 1 + 1 + 1 + 1) (.int .u64 (dg U' 7)) = PV V U' b := by kernel_rfl
  rw [k]
theorem setCells_other (g k : Nat) (hk : k ≠ g) : ∀ (vs : List Value) (o : Nat) (w : World), (w.setCells g o vs).heap[k]? = w.heap[k]?
  | [], _, _ => rfl
  | v :: vs, o, w => by
    rw [World.setCells, setCells_other g k hk vs (o + 1)]
    exact Below.heap_setCell _ _ _ _ hk
theorem setCells_below (g : Nat) : ∀ (vs : List Value) (o : Nat) (w : World), Below g w (w.setCells g o vs)
  | [], _, w => Below.refl _ _
  | v :: vs, o, w => by
    rw [World.setCells]
    exact ((Below.refl g w).setCell (Nat.le_refl g) _).trans (setCells_below g vs (o + 1) _)

theorem pob_there {w : World} {g : Nat} {V U : Int} {b : Bool} (h : w.heap[g]? = some (pob V U b)) : w.there g 8 8 := by
  intro j hj
  rw [pob_cell h, pcells_y _ _ _ hj, nvals_get _ _ hj]
  refine ⟨rfl, ?_⟩
  unfold World.frozen? pob at *
  rw [h]; simp

theorem store_py {ops : Array Oper} {rest : List Oper} {o : Oper} {a : Act} {w : World} {Q : Exit → Act → World → Prop} (hgd : o.guard = none) (x y : Operand) (ho : o.op = .store 43 x y) (g : Nat) (U' : Int) (hx : a.eval x = .pointer (some ⟨g, 8, none⟩)) (hy : a.eval y = .agg (NV U'))
    {w0 : World} {B : Nat} (l1 : List (Nat × Obj)) {V U : Int} {b : Bool} {l2 : List (Nat × Obj)} (hg : Sto w0 w B (l1 ++ (g, pob V U b) :: l2))
    (h : ∀ w', Hid (Sto w0 w' B (l1 ++ (g, pob V U' b) :: l2)) → wpList Tryd.prog ops Q rest (a.put o.dst undef) w') : wpList Tryd.prog ops Q (o :: rest) a w := by
  refine wpList_store_mid hgd 43 x y ho g 8 (NV U') hx hy (by rw [NV_size]; exact pob_there (hg.mid l1)) (by rw [info43, NV_size]) (NV_one U') ?_
  exact h _ (hid (hg.turn l1 (setCells_below g _ _ _) (PV_setY V U U' b w g (hg.mid l1)) (fun k hk => setCells_other g k hk _ _ _)))

/-- The place that the multiples begin with. -/
def startP (u : Fp) : Fp × Option (Fp × Fp) := if u * (u * (u + 486662) + 1) = 0 then (1, some (u, 0)) else (u * (u * (u + 486662) + 1), some (u, 1))

theorem mul_start (u : Fp) (k : Nat → Bool) : mulF u k = tells (multF Mth.iv 486662 (startP u).1 (startP u).2 k 255) := by
  unfold mulF startP
  simp only
  split <;> rfl

theorem mult_step {b : Fp} {st p q r : Option (Fp × Fp)} {k : Nat → Bool} {j : Nat} (hj : j < 255) (h : p = multF Mth.iv 486662 b st k (255 - (j + 1))) (hq : q = joinF Mth.iv 486662 b p p) (hr : r = joinF Mth.iv 486662 b q st) :
    (k j = false → q = multF Mth.iv 486662 b st k (255 - j)) ∧ (k j = true → r = multF Mth.iv 486662 b st k (255 - j)) := by
  have e1 : 255 - j = (255 - (j + 1)) + 1 := by omega
  have e2 : 254 - (255 - (j + 1)) = j := by omega
  rw [e1]
  unfold multF
  simp only [e2, ← h, ← hq, ← hr]
  constructor
  · intro hk; rw [hk]; rfl
  · intro hk; rw [hk]; rfl

theorem tells_zero {p : Option (Fp × Fp)} {f g : Nat → Int} (hp : p = none) (h : tells p = fl f g) : zeros = lad f g := by
  have z : fl f g = 0 := by rw [← h, hp]; rfl
  rw [lad_zero z]; rfl
theorem tells_some {p : Option (Fp × Fp)} {x y : Fp} {f g : Nat → Int} (hp : p = some (x, y)) (h : tells p = fl f g) : byteOf (fv x) = lad f g := by
  have z : fl f g = x := by rw [← h, hp]; rfl
  rw [lad_eq, z]; rfl

theorem store_any55 {ops : Array Oper} {Q : Exit → Act → World → Prop} {S : World → Prop} {fuel i : Nat} {listed : Array Bool} {a : Act} {w : World} (hr : Region.ready .any ops listed = [i]) (o : Oper) (ho : ops[i]? = some o) (hg : o.guard = none) (hd : o.dst = none)
    (x y : Operand) (hop : o.op = .store 55 x y) (g : Nat) (V U : Int) (b : Bool) (hx : a.eval x = .pointer (some ⟨g, 0, none⟩)) (hy : a.eval y = .agg (PV V U b)) {w0 : World} {B : Nat} (l1 : List (Nat × Obj)) {V' U' : Int} {b' : Bool} {l2 : List (Nat × Obj)} (hS : Sto w0 w B (l1 ++ (g, pob V' U' b') :: l2))
    (h : ∀ w', Sto w0 w' B (l1 ++ (g, pob V U b) :: l2) → S w' ∧ wpAnyH Tryd.prog .any ops Q S fuel (listed.setIfInBounds i true) a w') : wpAnyH Tryd.prog .any ops Q S (fuel + 1) listed a w := by
  refine wpAnyH_all hr (by simp) ?_
  intro j hj
  obtain rfl : j = i := by simpa using hj
  unfold wpOp
  rw [ho]
  have hw : Region.wanted o (yielded ops a.tmps) = true := by unfold Region.wanted; rw [hg]
  simp only [hw, if_true]
  left
  refine wp_store_row 55 x y hop g _ hx hy 55 (PV V' U' b') (hS.mid l1) (by rw [info55, PV_size]) (by rw [PV_size, PV_size]) (PV_one V U b) ?_
  rw [hd]
  exact h _ (hS.row l1)

theorem Sto.place {w0 W : World} {B : Nat} {Bs : List (Nat × Obj)} (h : Sto w0 W B Bs) : Sto w0 (W.alloc (.cells #[.int .u64 0, .int .u64 0, .int .u64 0, .int .u64 0, .int .u64 0, .int .u64 0, .int .u64 0, .int .u64 0, .int .u64 0, .int .u64 0, .int .u64 0, .int .u64 0, .int .u64 0, .int .u64 0, .int .u64 0, .int .u64 0, .bool false] 55)) B ((W.heap.size, pob 0 0 false) :: Bs) := by
  have := h.alloc #[.int .u64 0, .int .u64 0, .int .u64 0, .int .u64 0, .int .u64 0, .int .u64 0, .int .u64 0, .int .u64 0, .int .u64 0, .int .u64 0, .int .u64 0, .int .u64 0, .int .u64 0, .int .u64 0, .int .u64 0, .int .u64 0, .bool false] 55
  rw [zero17] at this; exact this

theorem load_o {ops : Array Oper} {rest : List Oper} {o : Oper} {a : Act} {w : World} {Q : Exit → Act → World → Prop} (hgd : o.guard = none) (x : Operand) (ho : o.op = .load 55 x) (g : Nat) (p : Option (Fp × Fp)) (hx : a.eval x = .pointer (some ⟨g, 0, none⟩)) (hg : w.heap[g]? = some (oob p))
    (h : wpList Tryd.prog ops Q rest (a.put o.dst (.agg (PO p))) w) : wpList Tryd.prog ops Q (o :: rest) a w := by
  cases p with
  | none => exact load_p hgd x ho g 0 0 true hx hg h
  | some p => exact load_p hgd x ho g (fv p.1) (fv p.2) false hx hg h
theorem oob_pob (p : Option (Fp × Fp)) : ∃ V U b, oob p = pob V U b ∧ PO p = PV V U b := by
  cases p with
  | none => exact ⟨0, 0, true, rfl, rfl⟩
  | some p => exact ⟨fv p.1, fv p.2, false, rfl, rfl⟩
theorem store_o {ops : Array Oper} {rest : List Oper} {o : Oper} {a : Act} {w : World} {Q : Exit → Act → World → Prop} (hgd : o.guard = none) (x y : Operand) (ho : o.op = .store 55 x y) (g : Nat) (p : Option (Fp × Fp)) (hx : a.eval x = .pointer (some ⟨g, 0, none⟩)) (hy : a.eval y = .agg (PO p))
    {w0 : World} {B : Nat} (l1 : List (Nat × Obj)) {p' : Option (Fp × Fp)} {l2 : List (Nat × Obj)} (hg : Sto w0 w B (l1 ++ (g, oob p') :: l2))
    (h : ∀ w', Hid (Sto w0 w' B (l1 ++ (g, oob p) :: l2)) → wpList Tryd.prog ops Q rest (a.put o.dst undef) w') : wpList Tryd.prog ops Q (o :: rest) a w := by
  obtain ⟨V, U, b, e1, e2⟩ := oob_pob p
  obtain ⟨V', U', b', e3, _⟩ := oob_pob p'
  rw [e3] at hg
  rw [e2] at hy
  refine store_p hgd x y ho g V U b hx hy l1 hg fun w' hw => h w' ?_
  rw [e1]; exact hw

set_option maxRecDepth 100000 in
set_option maxHeartbeats 8000000 in
theorem specMultiple_any (f g : Nat → Int) (hf : Byt f) (hg : Byt g) (w : World) : Calls Tryd.prog 18 #[av f, av g] w (RetA w (lad f g)) := by
  have HF := hid hf
  have HG := hid hg
  clear hf hg
  have H := start_aa f g w
  have ML := hid (show tells (multF Mth.iv 486662 (startP (fp (unum g))).1 (startP (fp (unum g))).2 (kb f) 255) = fl f g by rw [← mul_start, mulF_fout]; rfl)
  unfold av
  go_enter Tryd.func18, Tryd.ntmps18
  go_wp2_with fail
  refine region_free [0, 1, 2, 3, 4, 5] [4, 5] [0, 1, 2, 3] [av f, .agg (NV (lb (cl f) 32)), av g, .agg (NV (fv (fp (unum g)))), undef, undef, undef, undef] #[true, true, true, true, true, true, false, false] 2 (fun act β => ((((((act.put (some 11) (av f)).put (some 12) (.agg (NV (lb (cl f) 32)))).put (some 13) (av g)).put (some 14) (.agg (NV (fv (fp (unum g)))))).put (some 5) (.pointer (some ⟨β 4, 0, none⟩))).put (some 6) (.pointer (some ⟨β 5, 0, none⟩)))) (by kernel_rfl) (by kernel_rfl) (by kernel_rfl) (by kernel_rfl) (by kernel_rfl) (fun β => by kernel_rfl) ⟨fun β w1 hb => givesAt_of ({ dst := some 11, op := Op.load 22 (Operand.tmp 2), type := 22, pos := "ladder.go:85", after := #[], guard := none }) (by kernel_rfl) (gives_load22 (.tmp 2) rfl (w.heap.size) f (by kernel_rfl) (kept_obj (H.out.mid [_, _]) hb)), fun β w1 hb => givesAt_of ({ dst := some 12, op := Op.call { callee := Callee.value (Operand.func 28), args := #[Operand.tmp 11], argTypes := #[22] }, type := 43, pos := "ladder.go:85", after := #[{ on := 0, ground := Ground.data }], guard := none }) (by kernel_rfl) (gives_call rfl ent28 #[av f] (by kernel_rfl) (clamped_any f HF.out _)), fun β w1 hb => givesAt_of ({ dst := some 13, op := Op.load 22 (Operand.tmp 3), type := 22, pos := "ladder.go:85", after := #[], guard := none }) (by kernel_rfl) (gives_load22 (.tmp 3) rfl (w.heap.size + 1) g (by kernel_rfl) (kept_obj (H.out.mid [_]) hb)), fun β w1 hb => givesAt_of ({ dst := some 14, op := Op.call { callee := Callee.value (Operand.func 29), args := #[Operand.tmp 13], argTypes := #[22] }, type := 43, pos := "ladder.go:85", after := #[{ on := 2, ground := Ground.data }, { on := 1, ground := Ground.chain }], guard := none }) (by kernel_rfl) (gives_call rfl ent29 #[av g] (by kernel_rfl) (element_any g HG.out _)), trivial⟩ (fun β W hB hL => ?_)
  simp only [Act.put, List.setIfInBounds_toArray, List.set_cons_zero, List.set_cons_succ]
  have H1 := hL.sto H.out hB (by decide) (by decide)
  simp only [List.map_cons, List.map_nil, List.cons_append, List.nil_append] at H1
  generalize β 4 = b5 at *
  generalize β 5 = b6 at *
  refine wpAnyH_store (i := 6) (by kernel_rfl) ({ dst := none, op := Op.store 43 (Operand.tmp 5) (Operand.tmp 12), type := 0, pos := "ladder.go:85", after := #[{ on := 4, ground := Ground.data }, { on := 1, ground := Ground.data }, { on := 3, ground := Ground.chain }, { on := 0, ground := Ground.phase }, { on := 1, ground := Ground.phase }, { on := 2, ground := Ground.textOnly Departure.lateStores }, { on := 3, ground := Ground.textOnly Departure.lateStoresUnsure }, { on := 4, ground := Ground.phase }, { on := 5, ground := Ground.phase }], guard := none }) (by kernel_rfl) rfl rfl (.tmp 5) (.tmp 12) rfl (b5) (lb (cl f) 32) (by kernel_rfl) (by kernel_rfl) [] (H1) (fun W2 H2 => ?_)
  refine wpAnyH_store (i := 7) (by kernel_rfl) ({ dst := none, op := Op.store 43 (Operand.tmp 6) (Operand.tmp 14), type := 0, pos := "ladder.go:85", after := #[{ on := 5, ground := Ground.data }, { on := 3, ground := Ground.data }, { on := 6, ground := Ground.chain }, { on := 0, ground := Ground.phase }, { on := 1, ground := Ground.phase }, { on := 2, ground := Ground.phase }, { on := 3, ground := Ground.phase }, { on := 4, ground := Ground.phase }, { on := 5, ground := Ground.phase }, { on := 6, ground := Ground.phase }], guard := none }) (by kernel_rfl) rfl rfl (.tmp 6) (.tmp 14) rfl (b6) (fv (fp (unum g))) (by kernel_rfl) (by kernel_rfl) [_] (H2) (fun W3 H3 => ?_)
  refine wpAnyH_end (by kernel_rfl) ?_
  replace H := hid H3
  clear hB hL H1 H2 H3
  obtain ⟨u, hu⟩ : ∃ u, u = fp (unum g) := ⟨_, rfl⟩
  have HU := hid hu
  rw [← hu] at H ML
  clear hu HU
  obtain ⟨c, hc⟩ : ∃ c, c = u * (u * (u + 486662) + 1) := ⟨_, rfl⟩
  have HC := hid hc
  go_wp2_with fail
  have HD := hid H.out.drew
  refine wp_region_held_drew (S := fun v => v.heap[b6]? = some (nob (fv u)) ∧ True) (by kernel_rfl) ⟨HD.out.mid [_], trivial⟩ (fun hH0 => ?_)
  refine wpAnyH_take (i := 2) (oi := { dst := some 17, op := Op.load 43 (Operand.tmp 6), type := 43, pos := "ladder.go:86", after := #[{ on := 7, ground := Ground.gcOnly Departure.lateStores }], guard := none }) (v := .agg (NV (fv u))) rfl (by kernel_rfl) (by kernel_rfl) (by kernel_rfl) (fun _ _ _ h => h) (y_load_n rfl (.tmp 6) rfl (b6) (fv u) rfl (fun v hv => hv.1)) hH0 ?_
  simp only [Act.put, List.setIfInBounds_toArray, List.set_cons_zero, List.set_cons_succ]
  refine free_t 4 [0, 1, 3, 4, 5, 6] [5, 6] [0, 1, 3, 4] [.agg (NV (fv u)), .agg (NV (fv c)), undef, .agg (NV (fv 1)), .agg (PV (fv u) (fv 1) false), undef, undef, undef, undef] #[false, false, true, false, false, false, false, false, false] #[true, true, true, true, true, true, true, false, false] #[true, true, true, true, false, true, true, false, false] 2 (fun act β => ((((((act.put (some 15) (.agg (NV (fv u)))).put (some 16) (.agg (NV (fv c)))).put (some 18) (.agg (NV (fv 1)))).put (some 19) (.agg (PV (fv u) (fv 1) false))).put (some 7) (.pointer (some ⟨β 5, 0, none⟩))).put (some 8) (.pointer (some ⟨β 6, 0, none⟩)))) (fun act β => (((((act.put (some 15) (.agg (NV (fv u)))).put (some 16) (.agg (NV (fv c)))).put (some 18) (.agg (NV (fv 1)))).put (some 7) (.pointer (some ⟨β 5, 0, none⟩))).put (some 8) (.pointer (some ⟨β 6, 0, none⟩)))) (by kernel_rfl) (by kernel_rfl) (by kernel_rfl) (by kernel_rfl) (by kernel_rfl) (by kernel_rfl) (fun β => by kernel_rfl) (fun β => by kernel_rfl) ⟨fun β w1 hb => givesAt_of ({ dst := some 15, op := Op.load 43 (Operand.tmp 6), type := 43, pos := "ladder.go:86", after := #[], guard := none }) (by kernel_rfl) (gives_load43 (.tmp 6) rfl (b6) (fv u) (by kernel_rfl) (kept_obj (HD.out.mid [_]) hb)), fun β w1 hb => givesAt_of ({ dst := some 16, op := Op.call { callee := Callee.value (Operand.func 39), args := #[Operand.tmp 15], argTypes := #[43] }, type := 43, pos := "ladder.go:86", after := #[{ on := 0, ground := Ground.data }], guard := none }) (by kernel_rfl) (gives_call rfl ent39 #[.agg (NV (fv u))] (by kernel_rfl) (curved_e u c HC _)), fun β w1 hb => givesAt_of ({ dst := some 18, op := Op.call { callee := Callee.value (Operand.func 31), args := #[Operand.const (Value.int IntKind.u64 1)], argTypes := #[41] }, type := 43, pos := "ladder.go:86", after := #[{ on := 1, ground := Ground.chain }], guard := none }) (by kernel_rfl) (gives_call rfl ent31 #[.int .u64 1] (by kernel_rfl) (s_fv 1 1 (by decide) (by decide) fv_one.symm _)), fun β w1 hb => givesAt_of ({ dst := some 19, op := Op.build 55 #[(0, Operand.tmp 17), (1, Operand.tmp 18)], type := 55, pos := "ladder.go:86", after := #[{ on := 2, ground := Ground.data }, { on := 3, ground := Ground.data }, { on := 7, ground := Ground.gcOnly Departure.lateStores }], guard := none }) (by kernel_rfl) (gives_build55 _ rfl (fv u) (fv 1) false _ (by kernel_rfl) (built_pv _ _)), trivial⟩ (fun β => by kernel_rfl) (fun w1 hb => ⟨kept_obj (HD.out.mid [_]) hb, trivial⟩) (fun β W hB hL => ?_) (fun fin β W hB hL => ?_)
  rotate_left
  · refine wpAnyH_take (i := 4) (oi := { dst := some 19, op := Op.build 55 #[(0, Operand.tmp 17), (1, Operand.tmp 18)], type := 55, pos := "ladder.go:86", after := #[{ on := 2, ground := Ground.data }, { on := 3, ground := Ground.data }, { on := 7, ground := Ground.gcOnly Departure.lateStores }], guard := none }) (v := .agg (PV (fv u) (fv 1) false)) rfl (by kernel_rfl) (by kernel_rfl) (by kernel_rfl) (fun _ _ _ h => h) (y_build55 rfl _ rfl (fv u) (fv 1) false _ (by kernel_rfl) (built_pv _ _)) ⟨kept_obj (HD.out.mid [_]) hB, trivial⟩ ?_
    exact fin β W hB hL
  simp only [Act.put, List.setIfInBounds_toArray, List.set_cons_zero, List.set_cons_succ]
  have H1 := hL.sto HD.out hB (by decide) (by decide)
  simp only [List.map_cons, List.map_nil, List.cons_append, List.nil_append] at H1
  rw [show mob _ 5 = nob 0 from by kernel_rfl, show mob _ 6 = pob 0 0 false from by kernel_rfl] at H1
  generalize β 5 = b7 at *
  generalize β 6 = b8 at *
  refine store_any (i := 7) (by kernel_rfl) ({ dst := none, op := Op.store 43 (Operand.tmp 7) (Operand.tmp 16), type := 0, pos := "ladder.go:86", after := #[{ on := 5, ground := Ground.data }, { on := 1, ground := Ground.data }, { on := 3, ground := Ground.chain }, { on := 0, ground := Ground.phase }, { on := 1, ground := Ground.phase }, { on := 2, ground := Ground.textOnly Departure.lateStores }, { on := 3, ground := Ground.textOnly Departure.lateStoresUnsure }, { on := 4, ground := Ground.textOnly Departure.lateStores }, { on := 5, ground := Ground.phase }, { on := 6, ground := Ground.phase }], guard := none }) (by kernel_rfl) rfl rfl (.tmp 7) (.tmp 16) rfl (b7) (fv c) (by kernel_rfl) (by kernel_rfl) [] (H1) (fun W2 H2 => ⟨⟨H2.mid [_, _, _], trivial⟩, ?_⟩)
  refine store_any55 (i := 8) (by kernel_rfl) ({ dst := none, op := Op.store 55 (Operand.tmp 8) (Operand.tmp 19), type := 0, pos := "ladder.go:86", after := #[{ on := 6, ground := Ground.data }, { on := 4, ground := Ground.data }, { on := 7, ground := Ground.chain }, { on := 0, ground := Ground.phase }, { on := 1, ground := Ground.phase }, { on := 2, ground := Ground.phase }, { on := 3, ground := Ground.phase }, { on := 4, ground := Ground.phase }, { on := 5, ground := Ground.phase }, { on := 6, ground := Ground.phase }, { on := 7, ground := Ground.phase }], guard := none }) (by kernel_rfl) rfl rfl (.tmp 8) (.tmp 19) rfl (b8) (fv u) (fv 1) false (by kernel_rfl) (by kernel_rfl) [_] H2 (fun W3 H3 => ⟨⟨H3.mid [_, _, _], trivial⟩, ?_⟩)
  refine wpAnyH_end (by kernel_rfl) ?_
  replace H := hid H3
  clear hB hL HD hH0 H1 H2 H3
  by_cases hz : c = 0
  · have D := hid (decide_eq_true hz)
    have ES : startP u = (1, some (u, 0)) := by unfold startP; rw [if_pos (HC.out.symm.trans hz)]
    rw [ES] at ML
    clear ES hz hc HC
    skip
    go_wp2_with (first | (refine load_nw rfl _ rfl b7 (fv c) rfl (H.out.mid []) ?_) | (refine build_nw rfl _ rfl (fv 0) _ (by kernel_rfl) built_zero_n ?_) | (refine eql_f rfl _ _ _ rfl c 0 rfl rfl true D.out.symm ?_) | (go_at_call 31; (with_reducible refine (s_fv 1 1 (by decide) (by decide) fv_one.symm _).mono ?_); rintro e w1 ⟨rfl, hb⟩; replace H := hid (H.out.call hb); clear hb) | (refine store_n rfl _ _ rfl b7 (fv 1) rfl rfl [] H.out ?_; intro w2 G; replace H := G; clear G) | (refine store_py rfl _ _ rfl b8 (fv 0) rfl rfl [_] H.out ?_; intro w3 G; clear H) | (refine build_p rfl _ rfl 0 0 true _ (by kernel_rfl) built_none ?_) | (refine store_p rfl _ _ rfl w3.heap.size 0 0 true rfl rfl [] G.out.place ?_; intro w4 J; clear G))
    generalize w3.heap.size = b9 at *
    go_loopw [10] (fun i wr => ∃ (k : Nat) (p : Option (Fp × Fp)), k ≤ 255 ∧ i = .int .i64 ((k : Int) - 1) ∧ Hid (p = multF Mth.iv 486662 1 (some (u, 0)) (kb f) (255 - k) ∧ Sto w wr w.heap.size [(b9, oob p), (b7, nob (fv 1)), (b8, oob (some (u, 0))), (b5, nob (lb (cl f) 32)), (b6, nob (fv u)), (w.heap.size + 1 + 1, aob fun _ => 0), (w.heap.size + 1, aob g), (w.heap.size, aob f)])) (fun i _ => (intOf i + 1).toNat)
    case atStart => exact ⟨255, none, by omega, rfl, hid ⟨rfl, J.out⟩⟩
    case round =>
      obtain ⟨k, p, hk, rfl, I⟩ := hrel
      clear J
      cases k with
      | zero =>
        have HP : Hid (tells p = fl f g) := hid (by rw [I.out.1]; exact ML.out)
        have G := hid I.out.2
        clear I
        cases hp : p with
        | none =>
          have E := hid (tells_zero hp HP.out)
          subst hp
          have k16 := pob_n (G.out.mid [])
          go_wp2_with (first | (refine build_a rfl _ rfl zeros _ (by kernel_rfl) built_zeros ?_) | (refine store_a rfl _ _ rfl (w.heap.size + 1 + 1) zeros rfl rfl [_, _, _, _, _] G.out ?_; intro w5 G5))
          rw [← E.out]
          exact ret_a (p := 4) rfl rfl (G5.out.mid [_, _, _, _, _]) rfl ⟨rfl, G5.out.below⟩
        | some xy =>
          obtain ⟨x, y⟩ := xy
          have E := hid (tells_some hp HP.out)
          subst hp
          have k16 := pob_n (G.out.mid [])
          go_wp2_with (first | (refine load_px rfl _ rfl b9 (fv x) (fv y) false rfl (G.out.mid []) ?_) | (go_at_call 37; (with_reducible refine (octets_any (fv x) _).mono ?_); rintro e w4 ⟨rfl, hb⟩; have G4 := hid (G.out.call hb); clear hb G) | (refine store_a rfl _ _ rfl (w.heap.size + 1 + 1) (byteOf (fv x)) rfl rfl [_, _, _, _, _] G4.out ?_; intro w5 G5))
          rw [← E.out]
          exact ret_a (p := 4) rfl rfl (G5.out.mid [_, _, _, _, _]) rfl ⟨rfl, G5.out.below⟩
      | succ t =>
        have e0 : (((t + 1 : Nat) : Int) - 1) = t := by omega
        rw [e0]
        have ht := hid (show t < 256 by omega)
        obtain ⟨q, hq⟩ : ∃ z, z = joinF Mth.iv 486662 1 p p := ⟨_, rfl⟩
        obtain ⟨r, hr⟩ : ∃ z, z = joinF Mth.iv 486662 1 q (some (u, 0)) := ⟨_, rfl⟩
        have NX := hid (mult_step (k := kb f) (by omega) I.out.1 hq hr)
        have HQ := hid hq
        have HR := hid hr
        have G := hid I.out.2
        clear I hq hr e0
        cases hb : kb f t
        · have HB := hid hb
          have NY := hid (NX.out.1 hb)
          clear hb NX
          go_wp2_with (first | (refine load_n rfl _ rfl b7 _ rfl (G.out.mid [_]) ?_) | (refine load_o rfl _ rfl b9 _ rfl (G.out.mid []) ?_) | (go_at_call 40; (with_reducible refine (joined_e 1 p p q HQ _).mono ?_); rintro e1 w1 ⟨rfl, hb⟩; replace G := hid (G.out.call hb); clear hb) | (refine store_o rfl _ _ rfl b9 _ rfl rfl [] G.out ?_; intro w1 G1; replace G := G1; clear G1) | (refine load_n rfl _ rfl b5 _ rfl (G.out.mid [_, _, _]) ?_) | (go_at_call 32; (with_reducible refine (bit_e HF t ht.out false HB _).mono ?_); rintro e1 w1 ⟨rfl, hb⟩; replace G := hid (G.out.call hb); clear hb))
          go_roundw
          case rel => exact ⟨t, q, by have := ht.out; omega, rfl, hid ⟨NY.out, G.out⟩⟩
          case measure => simp [intOf]
        · have HB := hid hb
          have NY := hid (NX.out.2 hb)
          clear hb NX
          go_wp2_with (first | (refine load_n rfl _ rfl b7 _ rfl (G.out.mid [_]) ?_) | (refine load_o rfl _ rfl b9 _ rfl (G.out.mid []) ?_) | (go_at_call 40; (with_reducible refine (joined_e 1 p p q HQ _).mono ?_); rintro e1 w1 ⟨rfl, hb⟩; replace G := hid (G.out.call hb); clear hb) | (refine load_o rfl _ rfl b8 (some (u, 0)) rfl (G.out.mid [_, _]) ?_) | (go_at_call 40; (with_reducible refine (joined_e 1 q (some (u, 0)) r HR _).mono ?_); rintro e1 w1 ⟨rfl, hb⟩; replace G := hid (G.out.call hb); clear hb) | (refine store_o rfl _ _ rfl b9 _ rfl rfl [] G.out ?_; intro w1 G1; replace G := G1; clear G1) | (refine load_n rfl _ rfl b5 _ rfl (G.out.mid [_, _, _]) ?_) | (go_at_call 32; (with_reducible refine (bit_e HF t ht.out true HB _).mono ?_); rintro e1 w1 ⟨rfl, hb⟩; replace G := hid (G.out.call hb); clear hb))
          go_roundw
          case rel => exact ⟨t, r, by have := ht.out; omega, rfl, hid ⟨NY.out, G.out⟩⟩
          case measure => simp [intOf]
  · have D := hid (decide_eq_false hz)
    have ES : startP u = (c, some (u, 1)) := by unfold startP; rw [if_neg (fun h => hz (HC.out.trans h)), ← HC.out]
    rw [ES] at ML
    clear ES hz hc HC
    skip
    go_wp2_with (first | (refine load_nw rfl _ rfl b7 (fv c) rfl (H.out.mid []) ?_) | (refine build_nw rfl _ rfl (fv 0) _ (by kernel_rfl) built_zero_n ?_) | (refine eql_f rfl _ _ _ rfl c 0 rfl rfl false D.out.symm ?_) | (refine build_p rfl _ rfl 0 0 true _ (by kernel_rfl) built_none ?_) | (refine store_p rfl _ _ rfl W3.heap.size 0 0 true rfl rfl [] H.out.place ?_; intro w4 J; clear H))
    generalize W3.heap.size = b9 at *
    go_loopw [10] (fun i wr => ∃ (k : Nat) (p : Option (Fp × Fp)), k ≤ 255 ∧ i = .int .i64 ((k : Int) - 1) ∧ Hid (p = multF Mth.iv 486662 c (some (u, 1)) (kb f) (255 - k) ∧ Sto w wr w.heap.size [(b9, oob p), (b7, nob (fv c)), (b8, oob (some (u, 1))), (b5, nob (lb (cl f) 32)), (b6, nob (fv u)), (w.heap.size + 1 + 1, aob fun _ => 0), (w.heap.size + 1, aob g), (w.heap.size, aob f)])) (fun i _ => (intOf i + 1).toNat)
    case atStart => exact ⟨255, none, by omega, rfl, hid ⟨rfl, J.out⟩⟩
    case round =>
      obtain ⟨k, p, hk, rfl, I⟩ := hrel
      clear J
      cases k with
      | zero =>
        have HP : Hid (tells p = fl f g) := hid (by rw [I.out.1]; exact ML.out)
        have G := hid I.out.2
        clear I
        cases hp : p with
        | none =>
          have E := hid (tells_zero hp HP.out)
          subst hp
          have k16 := pob_n (G.out.mid [])
          go_wp2_with (first | (refine build_a rfl _ rfl zeros _ (by kernel_rfl) built_zeros ?_) | (refine store_a rfl _ _ rfl (w.heap.size + 1 + 1) zeros rfl rfl [_, _, _, _, _] G.out ?_; intro w5 G5))
          rw [← E.out]
          exact ret_a (p := 4) rfl rfl (G5.out.mid [_, _, _, _, _]) rfl ⟨rfl, G5.out.below⟩
        | some xy =>
          obtain ⟨x, y⟩ := xy
          have E := hid (tells_some hp HP.out)
          subst hp
          have k16 := pob_n (G.out.mid [])
          go_wp2_with (first | (refine load_px rfl _ rfl b9 (fv x) (fv y) false rfl (G.out.mid []) ?_) | (go_at_call 37; (with_reducible refine (octets_any (fv x) _).mono ?_); rintro e w4 ⟨rfl, hb⟩; have G4 := hid (G.out.call hb); clear hb G) | (refine store_a rfl _ _ rfl (w.heap.size + 1 + 1) (byteOf (fv x)) rfl rfl [_, _, _, _, _] G4.out ?_; intro w5 G5))
          rw [← E.out]
          exact ret_a (p := 4) rfl rfl (G5.out.mid [_, _, _, _, _]) rfl ⟨rfl, G5.out.below⟩
      | succ t =>
        have e0 : (((t + 1 : Nat) : Int) - 1) = t := by omega
        rw [e0]
        have ht := hid (show t < 256 by omega)
        obtain ⟨q, hq⟩ : ∃ z, z = joinF Mth.iv 486662 c p p := ⟨_, rfl⟩
        obtain ⟨r, hr⟩ : ∃ z, z = joinF Mth.iv 486662 c q (some (u, 1)) := ⟨_, rfl⟩
        have NX := hid (mult_step (k := kb f) (by omega) I.out.1 hq hr)
        have HQ := hid hq
        have HR := hid hr
        have G := hid I.out.2
        clear I hq hr e0
        cases hb : kb f t
        · have HB := hid hb
          have NY := hid (NX.out.1 hb)
          clear hb NX
          go_wp2_with (first | (refine load_n rfl _ rfl b7 _ rfl (G.out.mid [_]) ?_) | (refine load_o rfl _ rfl b9 _ rfl (G.out.mid []) ?_) | (go_at_call 40; (with_reducible refine (joined_e c p p q HQ _).mono ?_); rintro e1 w1 ⟨rfl, hb⟩; replace G := hid (G.out.call hb); clear hb) | (refine store_o rfl _ _ rfl b9 _ rfl rfl [] G.out ?_; intro w1 G1; replace G := G1; clear G1) | (refine load_n rfl _ rfl b5 _ rfl (G.out.mid [_, _, _]) ?_) | (go_at_call 32; (with_reducible refine (bit_e HF t ht.out false HB _).mono ?_); rintro e1 w1 ⟨rfl, hb⟩; replace G := hid (G.out.call hb); clear hb))
          go_roundw
          case rel => exact ⟨t, q, by have := ht.out; omega, rfl, hid ⟨NY.out, G.out⟩⟩
          case measure => simp [intOf]
        · have HB := hid hb
          have NY := hid (NX.out.2 hb)
          clear hb NX
          go_wp2_with (first | (refine load_n rfl _ rfl b7 _ rfl (G.out.mid [_]) ?_) | (refine load_o rfl _ rfl b9 _ rfl (G.out.mid []) ?_) | (go_at_call 40; (with_reducible refine (joined_e c p p q HQ _).mono ?_); rintro e1 w1 ⟨rfl, hb⟩; replace G := hid (G.out.call hb); clear hb) | (refine load_o rfl _ rfl b8 (some (u, 1)) rfl (G.out.mid [_, _]) ?_) | (go_at_call 40; (with_reducible refine (joined_e c q (some (u, 1)) r HR _).mono ?_); rintro e1 w1 ⟨rfl, hb⟩; replace G := hid (G.out.call hb); clear hb) | (refine store_o rfl _ _ rfl b9 _ rfl rfl [] G.out ?_; intro w1 G1; replace G := G1; clear G1) | (refine load_n rfl _ rfl b5 _ rfl (G.out.mid [_, _, _]) ?_) | (go_at_call 32; (with_reducible refine (bit_e HF t ht.out true HB _).mono ?_); rintro e1 w1 ⟨rfl, hb⟩; replace G := hid (G.out.call hb); clear hb))
          go_roundw
          case rel => exact ⟨t, r, by have := ht.out; omega, rfl, hid ⟨NY.out, G.out⟩⟩
          case measure => simp [intOf]

theorem ent18 : Ent 18 := ent_of Tryd.func18 (by kernel_rfl) (by kernel_rfl)
set_option maxRecDepth 100000 in
set_option maxHeartbeats 2000000 in
theorem fnMultiple_core (f g : Nat → Int) (hf : Byt f) (hg : Byt g) (w : World) (h1 : One5 w) :
    Calls Tryd.prog 4 #[av f, av g] w fun e w' => e = .returned (.bool true) ∧ Below w.heap.size w w' := by
  have H1 := hid h1
  have Hf := hid hf
  have Hg := hid hg
  clear h1 hf hg
  have H := start_a2 f g w
  unfold av
  go_enter Tryd.func4, Tryd.ntmps4
  go_wp2_with fail
  refine region_free [0, 1, 2, 3, 4, 5, 6, 7] [] [0, 1, 2, 3, 4, 5, 6, 7] [av f, av g, av (lad f g), av f, av g, av (lad f g), .bool true, .bool true] #[true, true, true, true, true, true, true, true] 0 (fun act _ => ((((((((act.put (some 5) (av f)).put (some 6) (av g)).put (some 7) (av (lad f g))).put (some 8) (av f)).put (some 9) (av g)).put (some 10) (av (lad f g))).put (some 11) (.bool true)).put (some 4) (.bool true))) (by kernel_rfl) (by kernel_rfl) (by kernel_rfl) (by kernel_rfl) (by kernel_rfl) (fun β => by kernel_rfl) ⟨fun β w1 hb => givesAt_of ({ dst := some 5, op := Op.load 22 (Operand.tmp 2), type := 22, pos := "ladder.go:16", after := #[], guard := none }) (by kernel_rfl) (gives_load22 (.tmp 2) rfl (w.heap.size) f (by kernel_rfl) (kept_obj (H.out.mid [_]) hb)), fun β w1 hb => givesAt_of ({ dst := some 6, op := Op.load 22 (Operand.tmp 3), type := 22, pos := "ladder.go:16", after := #[], guard := none }) (by kernel_rfl) (gives_load22 (.tmp 3) rfl (w.heap.size + 1) g (by kernel_rfl) (kept_obj (H.out.mid []) hb)), fun β w1 hb => givesAt_of ({ dst := some 7, op := Op.call { callee := Callee.value (Operand.func 16), args := #[Operand.tmp 5, Operand.tmp 6], argTypes := #[22, 22] }, type := 22, pos := "ladder.go:16", after := #[{ on := 0, ground := Ground.data }, { on := 1, ground := Ground.data }], guard := none }) (by kernel_rfl) (gives_call rfl ent16 #[av f, av g] (by kernel_rfl) (mult_a f g Hf.out Hg.out _ (H1.out.below (H.out.below.trans (hb.mono H.out.big))))), fun β w1 hb => givesAt_of ({ dst := some 8, op := Op.load 22 (Operand.tmp 2), type := 22, pos := "ladder.go:16", after := #[], guard := none }) (by kernel_rfl) (gives_load22 (.tmp 2) rfl (w.heap.size) f (by kernel_rfl) (kept_obj (H.out.mid [_]) hb)), fun β w1 hb => givesAt_of ({ dst := some 9, op := Op.load 22 (Operand.tmp 3), type := 22, pos := "ladder.go:16", after := #[], guard := none }) (by kernel_rfl) (gives_load22 (.tmp 3) rfl (w.heap.size + 1) g (by kernel_rfl) (kept_obj (H.out.mid []) hb)), fun β w1 hb => givesAt_of ({ dst := some 10, op := Op.call { callee := Callee.value (Operand.func 18), args := #[Operand.tmp 8, Operand.tmp 9], argTypes := #[22, 22] }, type := 22, pos := "ladder.go:16", after := #[{ on := 3, ground := Ground.data }, { on := 4, ground := Ground.data }, { on := 2, ground := Ground.chain }], guard := none }) (by kernel_rfl) (gives_call rfl ent18 #[av f, av g] (by kernel_rfl) (specMultiple_any f g Hf.out Hg.out _)), fun β w1 hb => givesAt_of ({ dst := some 11, op := Op.binOp BinOp.eql 22 (Operand.tmp 7) (Operand.tmp 10) 22, type := 4, pos := "ladder.go:16", after := #[{ on := 2, ground := Ground.data }, { on := 5, ground := Ground.data }], guard := none }) (by kernel_rfl) (gives_eql22 (.tmp 7) (.tmp 10) _ rfl (lad f g) (lad f g) (by kernel_rfl) (by kernel_rfl) true (same_eq rfl)), fun β w1 hb => givesAt_of ({ dst := some 4, op := Op.assign (Operand.tmp 11), type := 4, pos := "ladder.go:16", after := #[{ on := 6, ground := Ground.data }, { on := 5, ground := Ground.chain }, { on := 0, ground := Ground.phase }, { on := 1, ground := Ground.phase }, { on := 2, ground := Ground.phase }, { on := 3, ground := Ground.phase }, { on := 4, ground := Ground.phase }, { on := 5, ground := Ground.phase }, { on := 6, ground := Ground.phase }], guard := none }) (by kernel_rfl) (gives_val rfl), trivial⟩ (fun β W hB hL => ?_)
  refine wpAnyH_end (by kernel_rfl) ?_
  simp only [Act.put, List.setIfInBounds_toArray, List.set_cons_zero, List.set_cons_succ]
  have BE := hid (H.out.call hB).below
  clear hB hL H
  go_wp2_with fail
  go_ret
  exact ⟨rfl, BE.out⟩

theorem fnMultiple_any (f g : Nat → Int) (hf : Byt f) (hg : Byt g) (X Y : Array Value) (hX : Hid (X = (bvals f).toArray)) (hY : Hid (Y = (bvals g).toArray)) (w : World) (h1 : One5 w) :
    Calls Tryd.prog 4 #[.agg X, .agg Y] w fun e w' => e = .returned (.bool true) ∧ Below w.heap.size w w' := by
  obtain rfl := hX.out
  obtain rfl := hY.out
  exact fnMultiple_core f g hf hg w h1
end Go.Proofs.YtflmkgecgijncaaDoor
