/-
  laws.FnExactLadder, laws.FnExactPublic, laws.FnExactShared. Printed by gen_exact.py.
-/
import Derived.Test.YtflmkgecgijncaaDoorS13
namespace Go.Proofs.YtflmkgecgijncaaDoor
open Go.RowKit Go.Shelf Mth

theorem RetArr.a {w : World} {f : Nat → Int} {e : Ending} {w' : World} (h : RetArr w f e w') : RetA w f e w' := by
  obtain ⟨O, rfl, hO, hb⟩ := h
  rw [hO.out]; exact ⟨rfl, hb.out⟩
theorem mult_a (f g : Nat → Int) (hf : Byt f) (hg : Byt g) (w : World) (h1 : One5 w) : Calls Tryd.prog 16 #[av f, av g] w (RetA w (lad f g)) :=
  (implMult_any f g hf hg _ _ (hid rfl) (hid rfl) w h1).mono fun _ _ h => h.a
theorem pub_a (f : Nat → Int) (hf : Byt f) (w : World) (h1 : One5 w) : Calls Tryd.prog 20 #[av f] w (RetA w (lad f nine)) :=
  (implPub_any f hf _ (hid rfl) w h1).mono fun _ _ h => h.a
theorem nine_a (w : World) : Calls Tryd.prog 19 #[] w (RetA w nine) := (nine_any w).mono fun _ _ h => h.a
/-- The call returned 32 bytes and whether they are no noughts. -/
def RetP (w : World) (f : Nat → Int) (r : Bool) (e : Ending) (w' : World) : Prop := e = .returned (.tuple #[av f, .bool r]) ∧ Below w.heap.size w w'
theorem shared_a (f g : Nat → Int) (hf : Byt f) (hg : Byt g) (w : World) (h1 : One5 w) : Calls Tryd.prog 22 #[av f, av g] w (RetP w (lad f g) (!same (lad f g) zeros)) :=
  (implShared_any f g hf hg _ _ (hid rfl) (hid rfl) w h1).mono fun _ _ h => by
    obtain ⟨O, rfl, hO, hb⟩ := h
    rw [hO.out]; exact ⟨rfl, hb.out⟩

theorem ent16 : Ent 16 := ent_of Tryd.func16 (by kernel_rfl) (by kernel_rfl)
theorem ent17 : Ent 17 := ent_of Tryd.func17 (by kernel_rfl) (by kernel_rfl)
theorem ent19 : Ent 19 := ent_of Tryd.func19 (by kernel_rfl) (by kernel_rfl)
theorem ent20 : Ent 20 := ent_of Tryd.func20 (by kernel_rfl) (by kernel_rfl)
theorem ent22 : Ent 22 := ent_of Tryd.func22 (by kernel_rfl) (by kernel_rfl)

theorem gives_eql22 {o : Oper} {ρ : Operand → Value} {w : World} (x y : Operand) (t : TypeId) (ho : o.op = .binOp .eql 22 x y t) (f g : Nat → Int) (hx : ρ x = av f) (hy : ρ y = av g) (r : Bool) (hr : r = same f g) : Gives Tryd.prog o ρ w fun v w' => v = .bool r ∧ Below w.heap.size w w' := by
  refine gives_val ?_
  subst hr
  unfold execOp
  unfold av at hx hy
  simp only [ho, hx, hy, Sem.run_bind, Sem.run_pure, Result.andThen_ok, run_eqGuard_agg w .eql 22 x y _ _ guard22, run_eql_struct w 22, run_equal22 9998 f g w]
theorem gives_neq22 {o : Oper} {ρ : Operand → Value} {w : World} (x y : Operand) (t : TypeId) (ho : o.op = .binOp .neq 22 x y t) (f g : Nat → Int) (hx : ρ x = av f) (hy : ρ y = av g) (r : Bool) (hr : r = !same f g) : Gives Tryd.prog o ρ w fun v w' => v = .bool r ∧ Below w.heap.size w w' := by
  refine gives_val ?_
  subst hr
  unfold execOp
  unfold av at hx hy
  simp only [ho, hx, hy, Sem.run_bind, Sem.run_pure, Result.andThen_ok, run_eqGuard_agg w .neq 22 x y _ _ guard22, run_neq_struct w 22, run_equal22 9998 f g w]

theorem load_w {ops : Array Oper} {rest : List Oper} {o : Oper} {a : Act} {w : World} {Q : Exit → Act → World → Prop} (hw : Region.wanted o (yielded ops a.tmps) = true) (x : Operand) (ho : o.op = .load 22 x)
    (g : Nat) (f : Nat → Int) (hx : a.eval x = .pointer (some ⟨g, 0, none⟩)) (hg : w.heap[g]? = some (aob f))
    (h : wpList Tryd.prog ops Q rest (a.put o.dst (av f)) w) : wpList Tryd.prog ops Q (o :: rest) a w :=
  wpList_y (S := fun v => v.heap[g]? = some (aob f)) (y_load hw x ho g f _ hx (hid rfl) (fun _ h => h)) hg h
theorem eql_w {ops : Array Oper} {rest : List Oper} {o : Oper} {a : Act} {w : World} {Q : Exit → Act → World → Prop} (hw : Region.wanted o (yielded ops a.tmps) = true) (x y : Operand) (t : TypeId) (ho : o.op = .binOp .eql 22 x y t)
    (f g : Nat → Int) (hx : a.eval x = av f) (hy : a.eval y = av g) (r : Bool) (hr : r = same f g)
    (h : wpList Tryd.prog ops Q rest (a.put o.dst (.bool r)) w) : wpList Tryd.prog ops Q (o :: rest) a w :=
  wpList_y (S := fun _ => True) (y_eql hw x y t ho f g _ _ hx hy (hid rfl) (hid rfl) r hr) trivial h
theorem shared_e (f g : Nat → Int) (hf : Byt f) (hg : Byt g) (s : Bool) (hs : Hid (same (lad f g) zeros = s)) (w : World) (h1 : One5 w) : Calls Tryd.prog 22 #[av f, av g] w (RetP w (lad f g) (!s)) := by
  rw [← hs.out]; exact shared_a f g hf hg w h1

theorem start_a2 (f g : Nat → Int) (w : World) : Hid (Sto w ((w.alloc (.cells (bvals f).toArray 22)).alloc (.cells (bvals g).toArray 22)) w.heap.size [(w.heap.size + 1, aob g), (w.heap.size, aob f)]) := by
  have S0 := ((Sto.start w).arr f).arr g
  have e1 : (w.alloc (.cells (bvals f).toArray 22)).heap.size = w.heap.size + 1 := by simp
  rw [e1] at S0
  exact hid S0
theorem start_a1 (f : Nat → Int) (w : World) : Hid (Sto w (w.alloc (.cells (bvals f).toArray 22)) w.heap.size [(w.heap.size, aob f)]) := hid ((Sto.start w).arr f)

set_option maxRecDepth 100000 in
set_option maxHeartbeats 2000000 in
theorem fnExactLadder_core (f g : Nat → Int) (hf : Byt f) (hg : Byt g) (w : World) (h1 : One5 w) :
    Calls Tryd.prog 3 #[av f, av g] w fun e w' => e = .returned (.bool true) ∧ Below w.heap.size w w' := by
  have H1 := hid h1
  have Hf := hid hf
  have Hg := hid hg
  clear h1 hf hg
  have H := start_a2 f g w
  unfold av
  go_enter Tryd.func3, Tryd.ntmps3
  go_wp2_with fail
  refine region_free [0, 1, 2, 3, 4, 5, 6, 7] [] [0, 1, 2, 3, 4, 5, 6, 7] [av f, av g, av (lad f g), av f, av g, av (lad f g), .bool true, .bool true] #[true, true, true, true, true, true, true, true] 0 (fun act _ => ((((((((act.put (some 5) (av f)).put (some 6) (av g)).put (some 7) (av (lad f g))).put (some 8) (av f)).put (some 9) (av g)).put (some 10) (av (lad f g))).put (some 11) (.bool true)).put (some 4) (.bool true))) (by kernel_rfl) (by kernel_rfl) (by kernel_rfl) (by kernel_rfl) (by kernel_rfl) (fun β => by kernel_rfl) ⟨fun β w1 hb => givesAt_of ({ dst := some 5, op := Op.load 22 (Operand.tmp 2), type := 22, pos := "ladder.go:11", after := #[], guard := none }) (by kernel_rfl) (gives_load22 (.tmp 2) rfl (w.heap.size) f (by kernel_rfl) (kept_obj (H.out.mid [_]) hb)), fun β w1 hb => givesAt_of ({ dst := some 6, op := Op.load 22 (Operand.tmp 3), type := 22, pos := "ladder.go:11", after := #[], guard := none }) (by kernel_rfl) (gives_load22 (.tmp 3) rfl (w.heap.size + 1) g (by kernel_rfl) (kept_obj (H.out.mid []) hb)), fun β w1 hb => givesAt_of ({ dst := some 7, op := Op.call { callee := Callee.value (Operand.func 16), args := #[Operand.tmp 5, Operand.tmp 6], argTypes := #[22, 22] }, type := 22, pos := "ladder.go:11", after := #[{ on := 0, ground := Ground.data }, { on := 1, ground := Ground.data }], guard := none }) (by kernel_rfl) (gives_call rfl ent16 #[av f, av g] (by kernel_rfl) (mult_a f g Hf.out Hg.out _ (H1.out.below (H.out.below.trans (hb.mono H.out.big))))), fun β w1 hb => givesAt_of ({ dst := some 8, op := Op.load 22 (Operand.tmp 2), type := 22, pos := "ladder.go:11", after := #[], guard := none }) (by kernel_rfl) (gives_load22 (.tmp 2) rfl (w.heap.size) f (by kernel_rfl) (kept_obj (H.out.mid [_]) hb)), fun β w1 hb => givesAt_of ({ dst := some 9, op := Op.load 22 (Operand.tmp 3), type := 22, pos := "ladder.go:11", after := #[], guard := none }) (by kernel_rfl) (gives_load22 (.tmp 3) rfl (w.heap.size + 1) g (by kernel_rfl) (kept_obj (H.out.mid []) hb)), fun β w1 hb => givesAt_of ({ dst := some 10, op := Op.call { callee := Callee.value (Operand.func 17), args := #[Operand.tmp 8, Operand.tmp 9], argTypes := #[22, 22] }, type := 22, pos := "ladder.go:11", after := #[{ on := 3, ground := Ground.data }, { on := 4, ground := Ground.data }, { on := 2, ground := Ground.chain }], guard := none }) (by kernel_rfl) (gives_call rfl ent17 #[av f, av g] (by kernel_rfl) (specLadder_any f g Hf.out Hg.out _)), fun β w1 hb => givesAt_of ({ dst := some 11, op := Op.binOp BinOp.eql 22 (Operand.tmp 7) (Operand.tmp 10) 22, type := 4, pos := "ladder.go:11", after := #[{ on := 2, ground := Ground.data }, { on := 5, ground := Ground.data }], guard := none }) (by kernel_rfl) (gives_eql22 (.tmp 7) (.tmp 10) _ rfl (lad f g) (lad f g) (by kernel_rfl) (by kernel_rfl) true (same_eq rfl)), fun β w1 hb => givesAt_of ({ dst := some 4, op := Op.assign (Operand.tmp 11), type := 4, pos := "ladder.go:11", after := #[{ on := 6, ground := Ground.data }, { on := 5, ground := Ground.chain }, { on := 0, ground := Ground.phase }, { on := 1, ground := Ground.phase }, { on := 2, ground := Ground.phase }, { on := 3, ground := Ground.phase }, { on := 4, ground := Ground.phase }, { on := 5, ground := Ground.phase }, { on := 6, ground := Ground.phase }], guard := none }) (by kernel_rfl) (gives_val rfl), trivial⟩ (fun β W hB hL => ?_)
  refine wpAnyH_end (by kernel_rfl) ?_
  simp only [Act.put, List.setIfInBounds_toArray, List.set_cons_zero, List.set_cons_succ]
  have BE := hid (H.out.call hB).below
  clear hB hL H
  go_wp2_with fail
  go_ret
  exact ⟨rfl, BE.out⟩

theorem fnExactLadder_any (f g : Nat → Int) (hf : Byt f) (hg : Byt g) (X Y : Array Value) (hX : Hid (X = (bvals f).toArray)) (hY : Hid (Y = (bvals g).toArray)) (w : World) (h1 : One5 w) :
    Calls Tryd.prog 3 #[.agg X, .agg Y] w fun e w' => e = .returned (.bool true) ∧ Below w.heap.size w w' := by
  obtain rfl := hX.out
  obtain rfl := hY.out
  exact fnExactLadder_core f g hf hg w h1
set_option maxRecDepth 100000 in
set_option maxHeartbeats 2000000 in
theorem fnExactPublic_core (f : Nat → Int) (hf : Byt f) (w : World) (h1 : One5 w) :
    Calls Tryd.prog 6 #[av f] w fun e w' => e = .returned (.bool true) ∧ Below w.heap.size w w' := by
  have H1 := hid h1
  have Hf := hid hf
  clear h1 hf
  have H := start_a1 f w
  unfold av
  go_enter Tryd.func6, Tryd.ntmps6
  go_wp2_with fail
  refine region_free [0, 1, 2, 3, 4, 5, 6] [] [0, 1, 2, 3, 4, 5, 6] [av f, av (lad f nine), av f, av nine, av (lad f nine), .bool true, .bool true] #[true, true, true, true, true, true, true] 0 (fun act _ => (((((((act.put (some 3) (av f)).put (some 4) (av (lad f nine))).put (some 5) (av f)).put (some 6) (av nine)).put (some 7) (av (lad f nine))).put (some 8) (.bool true)).put (some 2) (.bool true))) (by kernel_rfl) (by kernel_rfl) (by kernel_rfl) (by kernel_rfl) (by kernel_rfl) (fun β => by kernel_rfl) ⟨fun β w1 hb => givesAt_of ({ dst := some 3, op := Op.load 22 (Operand.tmp 1), type := 22, pos := "ladder.go:21", after := #[], guard := none }) (by kernel_rfl) (gives_load22 (.tmp 1) rfl (w.heap.size) f (by kernel_rfl) (kept_obj (H.out.mid []) hb)), fun β w1 hb => givesAt_of ({ dst := some 4, op := Op.call { callee := Callee.value (Operand.func 20), args := #[Operand.tmp 3], argTypes := #[22] }, type := 22, pos := "ladder.go:21", after := #[{ on := 0, ground := Ground.data }], guard := none }) (by kernel_rfl) (gives_call rfl ent20 #[av f] (by kernel_rfl) (pub_a f Hf.out _ (H1.out.below (H.out.below.trans (hb.mono H.out.big))))), fun β w1 hb => givesAt_of ({ dst := some 5, op := Op.load 22 (Operand.tmp 1), type := 22, pos := "ladder.go:21", after := #[], guard := none }) (by kernel_rfl) (gives_load22 (.tmp 1) rfl (w.heap.size) f (by kernel_rfl) (kept_obj (H.out.mid []) hb)), fun β w1 hb => givesAt_of ({ dst := some 6, op := Op.call { callee := Callee.value (Operand.func 19), args := #[], argTypes := #[] }, type := 22, pos := "ladder.go:21", after := #[{ on := 1, ground := Ground.chain }], guard := none }) (by kernel_rfl) (gives_call rfl ent19 #[] (by kernel_rfl) (nine_a _)), fun β w1 hb => givesAt_of ({ dst := some 7, op := Op.call { callee := Callee.value (Operand.func 17), args := #[Operand.tmp 5, Operand.tmp 6], argTypes := #[22, 22] }, type := 22, pos := "ladder.go:21", after := #[{ on := 2, ground := Ground.data }, { on := 3, ground := Ground.data }, { on := 3, ground := Ground.chain }], guard := none }) (by kernel_rfl) (gives_call rfl ent17 #[av f, av nine] (by kernel_rfl) (specLadder_any f nine Hf.out nine_byt _)), fun β w1 hb => givesAt_of ({ dst := some 8, op := Op.binOp BinOp.eql 22 (Operand.tmp 4) (Operand.tmp 7) 22, type := 4, pos := "ladder.go:21", after := #[{ on := 1, ground := Ground.data }, { on := 4, ground := Ground.data }], guard := none }) (by kernel_rfl) (gives_eql22 (.tmp 4) (.tmp 7) _ rfl (lad f nine) (lad f nine) (by kernel_rfl) (by kernel_rfl) true (same_eq rfl)), fun β w1 hb => givesAt_of ({ dst := some 2, op := Op.assign (Operand.tmp 8), type := 4, pos := "ladder.go:21", after := #[{ on := 5, ground := Ground.data }, { on := 4, ground := Ground.chain }, { on := 0, ground := Ground.phase }, { on := 1, ground := Ground.phase }, { on := 2, ground := Ground.phase }, { on := 3, ground := Ground.phase }, { on := 4, ground := Ground.phase }, { on := 5, ground := Ground.phase }], guard := none }) (by kernel_rfl) (gives_val rfl), trivial⟩ (fun β W hB hL => ?_)
  refine wpAnyH_end (by kernel_rfl) ?_
  simp only [Act.put, List.setIfInBounds_toArray, List.set_cons_zero, List.set_cons_succ]
  have BE := hid (H.out.call hB).below
  clear hB hL H
  go_wp2_with fail
  go_ret
  exact ⟨rfl, BE.out⟩

theorem fnExactPublic_any (f : Nat → Int) (hf : Byt f) (X : Array Value) (hX : Hid (X = (bvals f).toArray)) (w : World) (h1 : One5 w) :
    Calls Tryd.prog 6 #[.agg X] w fun e w' => e = .returned (.bool true) ∧ Below w.heap.size w w' := by
  obtain rfl := hX.out
  exact fnExactPublic_core f hf w h1
set_option maxRecDepth 100000 in
set_option maxHeartbeats 2000000 in
theorem fnExactShared_core (f g : Nat → Int) (hf : Byt f) (hg : Byt g) (w : World) (h1 : One5 w) :
    Calls Tryd.prog 11 #[av f, av g] w fun e w' => e = .returned (.bool true) ∧ Below w.heap.size w w' := by
  have H1 := hid h1
  have Hf := hid hf
  have Hg := hid hg
  clear h1 hf hg
  have H := start_a2 f g w
  unfold av
  cases hs : same (lad f g) zeros
  · have HS := hid hs
    clear hs
    go_enter Tryd.func11, Tryd.ntmps11
    go_wp2_with (first | (refine load_a rfl _ rfl w.heap.size _ rfl (H.out.mid [_]) ?_) | (refine load_a rfl _ rfl (w.heap.size + 1) _ rfl (H.out.mid []) ?_) | (go_at_call 22; (with_reducible refine (shared_e f g Hf.out Hg.out false HS _ (H1.out.below H.out.below)).mono ?_); rintro e w1 ⟨rfl, hb⟩; replace H := hid (H.out.call hb).zeros; clear hb) | (refine store_a rfl _ _ rfl w1.heap.size (lad f g) rfl rfl [] H.out ?_; intro w2 G; clear H) | (refine load_a rfl _ rfl w.heap.size _ rfl (G.out.mid [_, _]) ?_) | (refine load_a rfl _ rfl (w.heap.size + 1) _ rfl (G.out.mid [_]) ?_) | (go_at_call 17; (with_reducible refine (specLadder_any f g Hf.out Hg.out _).mono ?_); rintro e w3 ⟨rfl, hb⟩; have G2 := hid (G.out.call hb).zeros; clear hb G) | (refine store_a rfl _ _ rfl w3.heap.size (lad f g) rfl rfl [] G2.out ?_; intro w4 G3; clear G2) | (refine load_w rfl _ rfl w3.heap.size _ rfl (G3.out.mid []) ?_) | (refine load_w rfl _ rfl w1.heap.size _ rfl (G3.out.mid [_]) ?_) | (refine build_a rfl _ rfl zeros _ (by kernel_rfl) built_zeros ?_) | (refine eql_w rfl _ _ _ rfl (lad f g) zeros rfl rfl false HS.out.symm ?_) | (refine eql_w rfl _ _ _ rfl (lad f g) (lad f g) rfl rfl true (same_eq rfl) ?_))
    go_ret
    exact ⟨rfl, G3.out.below⟩
  · have HS := hid hs
    clear hs
    go_enter Tryd.func11, Tryd.ntmps11
    go_wp2_with (first | (refine load_a rfl _ rfl w.heap.size _ rfl (H.out.mid [_]) ?_) | (refine load_a rfl _ rfl (w.heap.size + 1) _ rfl (H.out.mid []) ?_) | (go_at_call 22; (with_reducible refine (shared_e f g Hf.out Hg.out true HS _ (H1.out.below H.out.below)).mono ?_); rintro e w1 ⟨rfl, hb⟩; replace H := hid (H.out.call hb).zeros; clear hb) | (refine store_a rfl _ _ rfl w1.heap.size (lad f g) rfl rfl [] H.out ?_; intro w2 G; clear H) | (refine load_a rfl _ rfl w.heap.size _ rfl (G.out.mid [_, _]) ?_) | (refine load_a rfl _ rfl (w.heap.size + 1) _ rfl (G.out.mid [_]) ?_) | (go_at_call 17; (with_reducible refine (specLadder_any f g Hf.out Hg.out _).mono ?_); rintro e w3 ⟨rfl, hb⟩; have G2 := hid (G.out.call hb).zeros; clear hb G) | (refine store_a rfl _ _ rfl w3.heap.size (lad f g) rfl rfl [] G2.out ?_; intro w4 G3; clear G2) | (refine load_w rfl _ rfl w3.heap.size _ rfl (G3.out.mid []) ?_) | (refine load_w rfl _ rfl w1.heap.size _ rfl (G3.out.mid [_]) ?_) | (refine build_a rfl _ rfl zeros _ (by kernel_rfl) built_zeros ?_) | (refine eql_w rfl _ _ _ rfl (lad f g) zeros rfl rfl true HS.out.symm ?_) | (refine eql_w rfl _ _ _ rfl (lad f g) (lad f g) rfl rfl true (same_eq rfl) ?_))
    go_ret
    exact ⟨rfl, G3.out.below⟩

theorem fnExactShared_any (f g : Nat → Int) (hf : Byt f) (hg : Byt g) (X Y : Array Value) (hX : Hid (X = (bvals f).toArray)) (hY : Hid (Y = (bvals g).toArray)) (w : World) (h1 : One5 w) :
    Calls Tryd.prog 11 #[.agg X, .agg Y] w fun e w' => e = .returned (.bool true) ∧ Below w.heap.size w w' := by
  obtain rfl := hX.out
  obtain rfl := hY.out
  exact fnExactShared_core f g hf hg w h1
end Go.Proofs.YtflmkgecgijncaaDoor
