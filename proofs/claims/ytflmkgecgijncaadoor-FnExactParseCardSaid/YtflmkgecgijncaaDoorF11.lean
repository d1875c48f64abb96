/-
  Swap: two elements are changed with each other, or not. The walk was printed by gen_swap.py.
-/
import Derived.Test.YtflmkgecgijncaaDoorF10
namespace Go.Proofs.YtflmkgecgijncaaDoor
open Go.RowKit Go.Shelf

/-- Of what was there in w, only cells of blocks b1 and b2 may have turned. -/
structure Upd2 (w w' : World) (b1 b2 : Nat) : Prop where
  os : w'.os = w.os
  tape : w'.tape = w.tape
  output : w'.output = w.output
  size : w.heap.size ≤ w'.heap.size
  block : ∀ k, k < w.heap.size → k ≠ b1 → k ≠ b2 → w'.heap[k]? = w.heap[k]?

/-- The first i words at b1, o1 are p, those at b2, o2 are q. -/
structure Acc2 (w W : World) (b1 o1 b2 o2 i : Nat) (p q : Nat → Int) : Prop where
  upd : Upd2 w W b1 b2
  cell1 : ∀ j, o1 + i ≤ j → W.cell? ⟨b1, j, none⟩ = w.cell? ⟨b1, j, none⟩
  cell2 : ∀ j, o2 + i ≤ j → W.cell? ⟨b2, j, none⟩ = w.cell? ⟨b2, j, none⟩
  froz1 : ∀ j, W.frozen? ⟨b1, j, none⟩ = w.frozen? ⟨b1, j, none⟩
  froz2 : ∀ j, W.frozen? ⟨b2, j, none⟩ = w.frozen? ⟨b2, j, none⟩
  got1 : ∀ j, j < i → W.cell? ⟨b1, o1 + j, none⟩ = some (.int .u64 (p j))
  got2 : ∀ j, j < i → W.cell? ⟨b2, o2 + j, none⟩ = some (.int .u64 (q j))

theorem Acc2.start (w : World) (b1 o1 b2 o2 : Nat) (p q : Nat → Int) : Acc2 w w b1 o1 b2 o2 0 p q :=
  ⟨⟨rfl, rfl, rfl, Nat.le_refl _, fun _ _ _ _ => rfl⟩, fun _ _ => rfl, fun _ _ => rfl, fun _ => rfl, fun _ => rfl, fun _ h => by omega, fun _ h => by omega⟩

theorem other_block {w : World} {b b' i j : Nat} {x : Value} (h : b' ≠ b) : (w.setCell ⟨b', j, none⟩ x).cell? ⟨b, i, none⟩ = w.cell? ⟨b, i, none⟩ :=
  World.cell?_setCell_other _ _ _ _ (by intro e; exact h (congrArg Addr.block e))

theorem Acc2.step {w W : World} {b1 o1 b2 o2 i : Nat} {p q : Nat → Int} (h : Acc2 w W b1 o1 b2 o2 i p q) (hne : b1 ≠ b2) (n : Nat) {x y : Int}
    (s1 : (W.cell? ⟨b1, o1 + i, none⟩).isSome = true) (s2 : (W.cell? ⟨b2, o2 + i, none⟩).isSome = true) (hx : x = p i) (hy : y = q i) :
    Acc2 w (((W.drewN n).setCell ⟨b1, o1 + i, none⟩ (.int .u64 x)).setCell ⟨b2, o2 + i, none⟩ (.int .u64 y)) b1 o1 b2 o2 (i + 1) p q := by
  have s1' : ((W.drewN n).cell? ⟨b1, o1 + i, none⟩).isSome = true := s1
  have s2' : (((W.drewN n).setCell ⟨b1, o1 + i, none⟩ (.int .u64 x)).cell? ⟨b2, o2 + i, none⟩).isSome = true := by rw [other_block hne]; exact s2
  have c1 : ∀ j, o1 + i ≤ j → (W.drewN n).cell? ⟨b1, j, none⟩ = w.cell? ⟨b1, j, none⟩ := h.cell1
  have c2 : ∀ j, o2 + i ≤ j → (W.drewN n).cell? ⟨b2, j, none⟩ = w.cell? ⟨b2, j, none⟩ := h.cell2
  have g1 : ∀ j, j < i → (W.drewN n).cell? ⟨b1, o1 + j, none⟩ = some (.int .u64 (p j)) := h.got1
  have g2 : ∀ j, j < i → (W.drewN n).cell? ⟨b2, o2 + j, none⟩ = some (.int .u64 (q j)) := h.got2
  have f1 : ∀ j, (W.drewN n).frozen? ⟨b1, j, none⟩ = w.frozen? ⟨b1, j, none⟩ := h.froz1
  have f2 : ∀ j, (W.drewN n).frozen? ⟨b2, j, none⟩ = w.frozen? ⟨b2, j, none⟩ := h.froz2
  have u : Upd2 w (W.drewN n) b1 b2 := ⟨h.upd.os, h.upd.tape, h.upd.output, h.upd.size, h.upd.block⟩
  generalize W.drewN n = W' at *
  refine ⟨⟨u.os, u.tape, u.output, by simp [World.setCell]; exact u.size, fun k hk h1 h2 => ?_⟩, fun j hj => ?_, fun j hj => ?_, fun j => ?_, fun j => ?_, fun j hj => ?_, fun j hj => ?_⟩
  · rw [Below.heap_setCell _ _ _ _ h2, Below.heap_setCell _ _ _ _ h1]; exact u.block k hk h1 h2
  · rw [other_block hne.symm, limbs_past (by omega)]; exact c1 j (by omega)
  · rw [limbs_past (by omega), other_block hne]; exact c2 j (by omega)
  · rw [World.frozen?_setCell, World.frozen?_setCell]; exact f1 j
  · rw [World.frozen?_setCell, World.frozen?_setCell]; exact f2 j
  · rw [other_block hne.symm]
    by_cases e : i = j
    · subst e; rw [limbs_put s1' rfl, hx]
    · rw [limbs_past (by omega)]; exact g1 j (by omega)
  · by_cases e : i = j
    · subst e; rw [limbs_put s2' rfl, hy]
    · rw [limbs_past (by omega), other_block hne]; exact g2 j (by omega)

set_option maxRecDepth 100000 in
set_option maxHeartbeats 4000000 in
theorem Swap_core (bv ov bu ou : Nat) (c m : Int) (a0 a1 a2 a3 a4 b0 b1 b2 b3 b4 : Int) (p q x t : Nat → Int) (w : World)
    (hm : Hid (∀ w, Calls Tryd.prog 76 #[.int .i64 c] w fun e w' => e = .returned (.int .u64 m) ∧ w = w')) (hne : bv ≠ bu)
    (ha : Limbs w bv ov a0 a1 a2 a3 a4) (fa : Free w bv ov) (hb : Limbs w bu ou b0 b1 b2 b3 b4) (fb : Free w bu ou)
    (s0 : Sw m a0 b0 (p 0) (q 0) (x 0) (t 0)) (s1 : Sw m a1 b1 (p 1) (q 1) (x 1) (t 1)) (s2 : Sw m a2 b2 (p 2) (q 2) (x 2) (t 2)) (s3 : Sw m a3 b3 (p 3) (q 3) (x 3) (t 3)) (s4 : Sw m a4 b4 (p 4) (q 4) (x 4) (t 4)) :
    Calls Tryd.prog 65 #[.pointer (some ⟨bv, ov, none⟩), .pointer (some ⟨bu, ou, none⟩), .int .i64 c] w fun e w' => e = .returned (.tuple #[]) ∧ Acc2 w w' bv ov bu ou 5 p q := by
  have hne' : bu ≠ bv := hne.symm
  have NE : Hid (bv ≠ bu) := hid hne
  have HA : Hid (Limbs w bv ov a0 a1 a2 a3 a4 ∧ Free w bv ov ∧ Limbs w bu ou b0 b1 b2 b3 b4 ∧ Free w bu ou) := hid ⟨ha, fa, hb, fb⟩
  have T0 := Acc2.start w bv ov bu ou p q
  clear ha fa hb fb
  go_enter Tryd.func65, Tryd.ntmps65
  go_wp2_with fail
  refine (hm.out _).mono ?_
  rintro e w1 ⟨rfl, rfl⟩
  go_wp2_with fail
  have ca : w.cell? ⟨bv, ov, none⟩ = some (.int .u64 a0) := (T0.cell1 (ov) (by omega)).trans HA.out.1.1
  have cb : w.cell? ⟨bu, ou, none⟩ = some (.int .u64 b0) := (T0.cell2 (ou) (by omega)).trans HA.out.2.2.1.1
  have fa : w.frozen? ⟨bv, ov, none⟩ = false := (T0.froz1 (ov)).trans HA.out.2.1.1
  have fb : w.frozen? ⟨bu, ou, none⟩ = false := (T0.froz2 (ou)).trans HA.out.2.2.2.1
  obtain ⟨e1, e2, e3, e4⟩ := s0
  go_quiet (fail)
  go_wp2_with fail
  have T1 := T0.step NE.out nq (x := p 0) (y := q 0) (by rw [show ov + 0 = ov from rfl, ca]; rfl) (by rw [show ou + 0 = ou from rfl, cb]; rfl) rfl rfl
  generalize ((w.drewN nq).setCell ⟨bv, ov + 0, none⟩ (.int .u64 (p 0))).setCell ⟨bu, ou + 0, none⟩ (.int .u64 (q 0)) = W0 at T1 ⊢
  clear ca cb fa fb e1 e2 e3 e4 T0
  have ca : W0.cell? ⟨bv, ov + 1, none⟩ = some (.int .u64 a1) := (T1.cell1 (ov + 1) (by omega)).trans HA.out.1.2.1
  have cb : W0.cell? ⟨bu, ou + 1, none⟩ = some (.int .u64 b1) := (T1.cell2 (ou + 1) (by omega)).trans HA.out.2.2.1.2.1
  have fa : W0.frozen? ⟨bv, ov + 1, none⟩ = false := (T1.froz1 (ov + 1)).trans HA.out.2.1.2.1
  have fb : W0.frozen? ⟨bu, ou + 1, none⟩ = false := (T1.froz2 (ou + 1)).trans HA.out.2.2.2.2.1
  obtain ⟨e1, e2, e3, e4⟩ := s1
  go_quiet (fail)
  go_wp2_with fail
  have T2 := T1.step NE.out nq (x := p 1) (y := q 1) (by rw [show ov + 1 = ov + 1 from rfl, ca]; rfl) (by rw [show ou + 1 = ou + 1 from rfl, cb]; rfl) rfl rfl
  generalize ((W0.drewN nq).setCell ⟨bv, ov + 1, none⟩ (.int .u64 (p 1))).setCell ⟨bu, ou + 1, none⟩ (.int .u64 (q 1)) = W1 at T2 ⊢
  clear ca cb fa fb e1 e2 e3 e4 T1
  have ca : W1.cell? ⟨bv, ov + 2, none⟩ = some (.int .u64 a2) := (T2.cell1 (ov + 2) (by omega)).trans HA.out.1.2.2.1
  have cb : W1.cell? ⟨bu, ou + 2, none⟩ = some (.int .u64 b2) := (T2.cell2 (ou + 2) (by omega)).trans HA.out.2.2.1.2.2.1
  have fa : W1.frozen? ⟨bv, ov + 2, none⟩ = false := (T2.froz1 (ov + 2)).trans HA.out.2.1.2.2.1
  have fb : W1.frozen? ⟨bu, ou + 2, none⟩ = false := (T2.froz2 (ou + 2)).trans HA.out.2.2.2.2.2.1
  obtain ⟨e1, e2, e3, e4⟩ := s2
  go_quiet (fail)
  go_wp2_with fail
  have T3 := T2.step NE.out nq (x := p 2) (y := q 2) (by rw [show ov + 2 = ov + 2 from rfl, ca]; rfl) (by rw [show ou + 2 = ou + 2 from rfl, cb]; rfl) rfl rfl
  generalize ((W1.drewN nq).setCell ⟨bv, ov + 2, none⟩ (.int .u64 (p 2))).setCell ⟨bu, ou + 2, none⟩ (.int .u64 (q 2)) = W2 at T3 ⊢
  clear ca cb fa fb e1 e2 e3 e4 T2
  have ca : W2.cell? ⟨bv, ov + 3, none⟩ = some (.int .u64 a3) := (T3.cell1 (ov + 3) (by omega)).trans HA.out.1.2.2.2.1
  have cb : W2.cell? ⟨bu, ou + 3, none⟩ = some (.int .u64 b3) := (T3.cell2 (ou + 3) (by omega)).trans HA.out.2.2.1.2.2.2.1
  have fa : W2.frozen? ⟨bv, ov + 3, none⟩ = false := (T3.froz1 (ov + 3)).trans HA.out.2.1.2.2.2.1
  have fb : W2.frozen? ⟨bu, ou + 3, none⟩ = false := (T3.froz2 (ou + 3)).trans HA.out.2.2.2.2.2.2.1
  obtain ⟨e1, e2, e3, e4⟩ := s3
  go_quiet (fail)
  go_wp2_with fail
  have T4 := T3.step NE.out nq (x := p 3) (y := q 3) (by rw [show ov + 3 = ov + 3 from rfl, ca]; rfl) (by rw [show ou + 3 = ou + 3 from rfl, cb]; rfl) rfl rfl
  generalize ((W2.drewN nq).setCell ⟨bv, ov + 3, none⟩ (.int .u64 (p 3))).setCell ⟨bu, ou + 3, none⟩ (.int .u64 (q 3)) = W3 at T4 ⊢
  clear ca cb fa fb e1 e2 e3 e4 T3
  have ca : W3.cell? ⟨bv, ov + 4, none⟩ = some (.int .u64 a4) := (T4.cell1 (ov + 4) (by omega)).trans HA.out.1.2.2.2.2
  have cb : W3.cell? ⟨bu, ou + 4, none⟩ = some (.int .u64 b4) := (T4.cell2 (ou + 4) (by omega)).trans HA.out.2.2.1.2.2.2.2
  have fa : W3.frozen? ⟨bv, ov + 4, none⟩ = false := (T4.froz1 (ov + 4)).trans HA.out.2.1.2.2.2.2
  have fb : W3.frozen? ⟨bu, ou + 4, none⟩ = false := (T4.froz2 (ou + 4)).trans HA.out.2.2.2.2.2.2.2
  obtain ⟨e1, e2, e3, e4⟩ := s4
  go_quiet (fail)
  go_wp2_with fail
  have T5 := T4.step NE.out nq (x := p 4) (y := q 4) (by rw [show ov + 4 = ov + 4 from rfl, ca]; rfl) (by rw [show ou + 4 = ou + 4 from rfl, cb]; rfl) rfl rfl
  generalize ((W3.drewN nq).setCell ⟨bv, ov + 4, none⟩ (.int .u64 (p 4))).setCell ⟨bu, ou + 4, none⟩ (.int .u64 (q 4)) = W4 at T5 ⊢
  clear ca cb fa fb e1 e2 e3 e4 T4
  go_end0
  exact ⟨rfl, T5⟩

/-- The call returned nothing; at bv lies X now, at bu Y; nothing in other blocks has turned. -/
def Swapped (w : World) (bv ov bu ou : Nat) (X Y : Int) (e : Ending) (w' : World) : Prop := e = .returned (.tuple #[]) ∧ E5 w' bv ov X ∧ E5 w' bu ou Y ∧ Upd2 w w' bv bu

theorem Acc2.limbs1 {w W : World} {b1 o1 b2 o2 : Nat} {p q : Nat → Int} (h : Acc2 w W b1 o1 b2 o2 5 p q) : Limbs W b1 o1 (p 0) (p 1) (p 2) (p 3) (p 4) :=
  ⟨h.got1 0 (by decide), h.got1 1 (by decide), h.got1 2 (by decide), h.got1 3 (by decide), h.got1 4 (by decide)⟩
theorem Acc2.limbs2 {w W : World} {b1 o1 b2 o2 : Nat} {p q : Nat → Int} (h : Acc2 w W b1 o1 b2 o2 5 p q) : Limbs W b2 o2 (q 0) (q 1) (q 2) (q 3) (q 4) :=
  ⟨h.got2 0 (by decide), h.got2 1 (by decide), h.got2 2 (by decide), h.got2 3 (by decide), h.got2 4 (by decide)⟩
theorem Acc2.free1 {w W : World} {b1 o1 b2 o2 i : Nat} {p q : Nat → Int} (h : Acc2 w W b1 o1 b2 o2 i p q) (hf : Free w b1 o1) : Free W b1 o1 := by
  obtain ⟨h0, h1, h2, h3, h4⟩ := hf
  exact ⟨(h.froz1 _).trans h0, (h.froz1 _).trans h1, (h.froz1 _).trans h2, (h.froz1 _).trans h3, (h.froz1 _).trans h4⟩
theorem Acc2.free2 {w W : World} {b1 o1 b2 o2 i : Nat} {p q : Nat → Int} (h : Acc2 w W b1 o1 b2 o2 i p q) (hf : Free w b2 o2) : Free W b2 o2 := by
  obtain ⟨h0, h1, h2, h3, h4⟩ := hf
  exact ⟨(h.froz2 _).trans h0, (h.froz2 _).trans h1, (h.froz2 _).trans h2, (h.froz2 _).trans h3, (h.froz2 _).trans h4⟩

theorem pick5 (y0 y1 y2 y3 y4 : Int) : ∃ f : Nat → Int, f 0 = y0 ∧ f 1 = y1 ∧ f 2 = y2 ∧ f 3 = y3 ∧ f 4 = y4 :=
  ⟨fun j => match j with | 0 => y0 | 1 => y1 | 2 => y2 | 3 => y3 | _ => y4, rfl, rfl, rfl, rfl, rfl⟩


theorem Swap1_any (bv ov bu ou : Nat) (A B : Int) (w : World) (ha : E5 w bv ov A) (hb : E5 w bu ou B) (hne : bv ≠ bu) :
    Calls Tryd.prog 65 #[.pointer (some ⟨bv, ov, none⟩), .pointer (some ⟨bu, ou, none⟩), .int .i64 1] w (Swapped w bv ov bu ou B A) := by
  obtain ⟨⟨a0, a1, a2, a3, a4, la, ta, ca⟩, fa⟩ := ha
  obtain ⟨⟨b0, b1, b2, b3, b4, lb, tb, cb⟩, fb⟩ := hb
  have ta' := ta
  have tb' := tb
  obtain ⟨⟨la0, ua0⟩, ⟨la1, ua1⟩, ⟨la2, ua2⟩, ⟨la3, ua3⟩, ⟨la4, ua4⟩⟩ := ta'
  obtain ⟨⟨lb0, ub0⟩, ⟨lb1, ub1⟩, ⟨lb2, ub2⟩, ⟨lb3, ub3⟩, ⟨lb4, ub4⟩⟩ := tb'
  obtain ⟨x0, t0, s0⟩ := sw1 a0 b0 la0 (by omega) lb0 (by omega)
  obtain ⟨x1, t1, s1⟩ := sw1 a1 b1 la1 (by omega) lb1 (by omega)
  obtain ⟨x2, t2, s2⟩ := sw1 a2 b2 la2 (by omega) lb2 (by omega)
  obtain ⟨x3, t3, s3⟩ := sw1 a3 b3 la3 (by omega) lb3 (by omega)
  obtain ⟨x4, t4, s4⟩ := sw1 a4 b4 la4 (by omega) lb4 (by omega)
  obtain ⟨p, rfl, rfl, rfl, rfl, rfl⟩ := pick5 b0 b1 b2 b3 b4
  obtain ⟨q, rfl, rfl, rfl, rfl, rfl⟩ := pick5 a0 a1 a2 a3 a4
  obtain ⟨x, rfl, rfl, rfl, rfl, rfl⟩ := pick5 x0 x1 x2 x3 x4
  obtain ⟨t, rfl, rfl, rfl, rfl, rfl⟩ := pick5 t0 t1 t2 t3 t4
  refine (Swap_core bv ov bu ou 1 _ _ _ _ _ _ _ _ _ _ _ p q x t w (hid mask1) hne la fa lb fb s0 s1 s2 s3 s4).mono ?_
  rintro e w' ⟨rfl, h⟩
  exact ⟨rfl, ⟨⟨_, _, _, _, _, h.limbs1, tb, cb⟩, h.free1 fa⟩, ⟨⟨_, _, _, _, _, h.limbs2, ta, ca⟩, h.free2 fb⟩, h.upd⟩

theorem Swap0_any (bv ov bu ou : Nat) (A B : Int) (w : World) (ha : E5 w bv ov A) (hb : E5 w bu ou B) (hne : bv ≠ bu) :
    Calls Tryd.prog 65 #[.pointer (some ⟨bv, ov, none⟩), .pointer (some ⟨bu, ou, none⟩), .int .i64 0] w (Swapped w bv ov bu ou A B) := by
  obtain ⟨⟨a0, a1, a2, a3, a4, la, ta, ca⟩, fa⟩ := ha
  obtain ⟨⟨b0, b1, b2, b3, b4, lb, tb, cb⟩, fb⟩ := hb
  have ta' := ta
  have tb' := tb
  obtain ⟨⟨la0, ua0⟩, ⟨la1, ua1⟩, ⟨la2, ua2⟩, ⟨la3, ua3⟩, ⟨la4, ua4⟩⟩ := ta'
  obtain ⟨⟨lb0, ub0⟩, ⟨lb1, ub1⟩, ⟨lb2, ub2⟩, ⟨lb3, ub3⟩, ⟨lb4, ub4⟩⟩ := tb'
  obtain ⟨x0, t0, s0⟩ := sw0 a0 b0 la0 (by omega) lb0 (by omega)
  obtain ⟨x1, t1, s1⟩ := sw0 a1 b1 la1 (by omega) lb1 (by omega)
  obtain ⟨x2, t2, s2⟩ := sw0 a2 b2 la2 (by omega) lb2 (by omega)
  obtain ⟨x3, t3, s3⟩ := sw0 a3 b3 la3 (by omega) lb3 (by omega)
  obtain ⟨x4, t4, s4⟩ := sw0 a4 b4 la4 (by omega) lb4 (by omega)
  obtain ⟨p, rfl, rfl, rfl, rfl, rfl⟩ := pick5 a0 a1 a2 a3 a4
  obtain ⟨q, rfl, rfl, rfl, rfl, rfl⟩ := pick5 b0 b1 b2 b3 b4
  obtain ⟨x, rfl, rfl, rfl, rfl, rfl⟩ := pick5 x0 x1 x2 x3 x4
  obtain ⟨t, rfl, rfl, rfl, rfl, rfl⟩ := pick5 t0 t1 t2 t3 t4
  refine (Swap_core bv ov bu ou 0 _ _ _ _ _ _ _ _ _ _ _ p q x t w (hid mask0) hne la fa lb fb s0 s1 s2 s3 s4).mono ?_
  rintro e w' ⟨rfl, h⟩
  exact ⟨rfl, ⟨⟨_, _, _, _, _, h.limbs1, ta, ca⟩, h.free1 fa⟩, ⟨⟨_, _, _, _, _, h.limbs2, tb, cb⟩, h.free2 fb⟩, h.upd⟩
end Go.Proofs.YtflmkgecgijncaaDoor
