/-
  Memory under the field's functions: what a call writes, and elements that lie somewhere.
-/
import Derived.Test.YtflmkgecgijncaaDoorF5
import Derived.RegionTactic
import Derived.ChangeAlike
namespace Go.Proofs.YtflmkgecgijncaaDoor
open Go.RowKit Go.Shelf

/-- Of what was there in w, only the n cells from o on in block b may have turned. -/
structure Upd (w w' : World) (b o n : Nat) : Prop where
  os : w'.os = w.os
  tape : w'.tape = w.tape
  output : w'.output = w.output
  size : w.heap.size ≤ w'.heap.size
  block : ∀ k, k < w.heap.size → k ≠ b → w'.heap[k]? = w.heap[k]?
  cell : ∀ j, (j < o ∨ o + n ≤ j) → w'.cell? ⟨b, j, none⟩ = w.cell? ⟨b, j, none⟩
  froz : ∀ j, w'.frozen? ⟨b, j, none⟩ = w.frozen? ⟨b, j, none⟩

theorem Upd.refl (w : World) (b o n : Nat) : Upd w w b o n := ⟨rfl, rfl, rfl, Nat.le_refl _, fun _ _ _ => rfl, fun _ _ => rfl, fun _ => rfl⟩

theorem Upd.trans {a w w' : World} {b o n : Nat} (h : Upd a w b o n) (g : Upd w w' b o n) : Upd a w' b o n :=
  ⟨g.os.trans h.os, g.tape.trans h.tape, g.output.trans h.output, Nat.le_trans h.size g.size, fun k hk hb => (g.block k (Nat.lt_of_lt_of_le hk h.size) hb).trans (h.block k hk hb),
    fun j hj => (g.cell j hj).trans (h.cell j hj), fun j => (g.froz j).trans (h.froz j)⟩

theorem Upd.drew {a w : World} {b o n : Nat} (h : Upd a w b o n) : Upd a w.drew b o n := ⟨h.os, h.tape, h.output, h.size, h.block, h.cell, h.froz⟩
theorem Upd.drewN {a w : World} {b o n : Nat} (h : Upd a w b o n) (m : Nat) : Upd a (w.drewN m) b o n := ⟨h.os, h.tape, h.output, h.size, h.block, h.cell, h.froz⟩

theorem Upd.setCell {a w : World} {b o n : Nat} (h : Upd a w b o n) {j : Nat} (hj : o ≤ j) (hj' : j < o + n) (v : Value) : Upd a (w.setCell ⟨b, j, none⟩ v) b o n := by
  refine h.trans ⟨rfl, rfl, rfl, by simp [World.setCell], fun k hk hb => Below.heap_setCell _ _ _ _ hb, fun i hi => ?_, fun i => World.frozen?_setCell _ _ _ _⟩
  exact World.cell?_setCell_other _ _ _ _ (by intro e; have := congrArg Addr.off e; simp at this; omega)

theorem Upd.of_below {w w' : World} (b o n : Nat) (h : Below w.heap.size w w') (hb : b < w.heap.size) : Upd w w' b o n :=
  ⟨h.os, h.tape, h.output, h.size, fun k hk _ => h.block k hk, fun j _ => h.cell (p := ⟨b, j, none⟩) hb, fun j => h.frozen (p := ⟨b, j, none⟩) hb⟩

theorem Upd.below {w w' : World} {b o n : Nat} (h : Upd w w' b o n) {B : Nat} (hb : B ≤ b) (hB : B ≤ w.heap.size) : Below B w w' :=
  ⟨h.os, h.tape, h.output, h.size, fun k hk => h.block k (by omega) (by omega)⟩

theorem Upd.other {w w' : World} {b o n : Nat} (h : Upd w w' b o n) {b' : Nat} (hb : b' < w.heap.size) (hne : b' ≠ b) (j : Nat) :
    w'.cell? ⟨b', j, none⟩ = w.cell? ⟨b', j, none⟩ ∧ w'.frozen? ⟨b', j, none⟩ = w.frozen? ⟨b', j, none⟩ :=
  ⟨World.cell?_of_block (w := w) (h.block b' hb hne), World.frozen?_of_block (w := w) (h.block b' hb hne)⟩

/-- Two places of five cells that do not meet. -/
def Off (b o b' o' : Nat) : Prop := b' ≠ b ∨ o' + 5 ≤ o ∨ o + 5 ≤ o'

theorem Upd.at {w w' : World} {b o : Nat} (h : Upd w w' b o 5) {b' o' : Nat} (hb : b' < w.heap.size) (hoff : Off b o b' o') (j : Nat) (hj : j < 5) :
    w'.cell? ⟨b', o' + j, none⟩ = w.cell? ⟨b', o' + j, none⟩ ∧ w'.frozen? ⟨b', o' + j, none⟩ = w.frozen? ⟨b', o' + j, none⟩ := by
  by_cases hne : b' = b
  · subst hne
    unfold Off at hoff
    exact ⟨h.cell _ (by omega), h.froz _⟩
  · exact h.other hb hne _

/-- Five words that are not frozen. -/
def Free (w : World) (b o : Nat) : Prop :=
  w.frozen? ⟨b, o, none⟩ = false ∧ w.frozen? ⟨b, o + 1, none⟩ = false ∧ w.frozen? ⟨b, o + 2, none⟩ = false ∧ w.frozen? ⟨b, o + 3, none⟩ = false ∧ w.frozen? ⟨b, o + 4, none⟩ = false

theorem Limbs.lt {w : World} {b o : Nat} {c0 c1 c2 c3 c4 : Int} (h : Limbs w b o c0 c1 c2 c3 c4) : b < w.heap.size := World.block_lt_of_cell? _ _ h.1

theorem Upd.limbs {w w' : World} {b o : Nat} (h : Upd w w' b o 5) {b' o' : Nat} (hoff : Off b o b' o') {c0 c1 c2 c3 c4 : Int} (hl : Limbs w b' o' c0 c1 c2 c3 c4) : Limbs w' b' o' c0 c1 c2 c3 c4 := by
  have hb := hl.lt
  obtain ⟨h0, h1, h2, h3, h4⟩ := hl
  exact ⟨(h.at hb hoff 0 (by decide)).1.trans h0, (h.at hb hoff 1 (by decide)).1.trans h1, (h.at hb hoff 2 (by decide)).1.trans h2, (h.at hb hoff 3 (by decide)).1.trans h3, (h.at hb hoff 4 (by decide)).1.trans h4⟩

theorem Upd.free {w w' : World} {b o n : Nat} (h : Upd w w' b o n) {b' o' : Nat} (hb : b' < w.heap.size) (hl : Free w b' o') : Free w' b' o' := by
  have e : ∀ j, w'.frozen? ⟨b', j, none⟩ = w.frozen? ⟨b', j, none⟩ := by
    intro j
    by_cases hne : b' = b
    · subst hne; exact h.froz j
    · exact (h.other hb hne j).2
  obtain ⟨h0, h1, h2, h3, h4⟩ := hl
  exact ⟨(e _).trans h0, (e _).trans h1, (e _).trans h2, (e _).trans h3, (e _).trans h4⟩

/-- At b, o lies an element that is X modulo 2^255 - 19. -/
def E5 (w : World) (b o : Nat) (X : Int) : Prop := (∃ c0 c1 c2 c3 c4 : Int, Limbs w b o c0 c1 c2 c3 c4 ∧ Tight c0 c1 c2 c3 c4 ∧ Cg (val c0 c1 c2 c3 c4) X) ∧ Free w b o

theorem E5.lt {w : World} {b o : Nat} {X : Int} (h : E5 w b o X) : b < w.heap.size := by obtain ⟨⟨_, _, _, _, _, h, _⟩, _⟩ := h; exact h.lt
theorem E5.room {w : World} {b o : Nat} {X : Int} (h : E5 w b o X) : Room w b o := by obtain ⟨⟨c0, c1, c2, c3, c4, h, _⟩, f⟩ := h; exact ⟨⟨c0, c1, c2, c3, c4, h⟩, f⟩
theorem E5.cg {w : World} {b o : Nat} {X Y : Int} (h : E5 w b o X) (g : Cg X Y) : E5 w b o Y := by
  obtain ⟨⟨c0, c1, c2, c3, c4, h, t, c⟩, f⟩ := h; exact ⟨⟨c0, c1, c2, c3, c4, h, t, c.trans g⟩, f⟩
theorem E5.keep {w w' : World} {b o b' o' : Nat} {X : Int} (h : E5 w b' o' X) (hu : Upd w w' b o 5) (hoff : Off b o b' o') : E5 w' b' o' X := by
  have hb := h.lt
  obtain ⟨⟨c0, c1, c2, c3, c4, h, t, c⟩, f⟩ := h
  exact ⟨⟨c0, c1, c2, c3, c4, hu.limbs hoff h, t, c⟩, hu.free hb f⟩
theorem Room.lt {w : World} {b o : Nat} (h : Room w b o) : b < w.heap.size := by obtain ⟨⟨_, _, _, _, _, h⟩, _⟩ := h; exact h.lt
theorem Room.keep {w w' : World} {b o b' o' : Nat} (h : Room w b' o') (hu : Upd w w' b o 5) (hoff : Off b o b' o') : Room w' b' o' := by
  have hb := h.lt
  obtain ⟨⟨c0, c1, c2, c3, c4, h⟩, f⟩ := h
  exact ⟨⟨c0, c1, c2, c3, c4, hu.limbs hoff h⟩, hu.free hb f⟩
theorem E5.below {w w' : World} {B b o : Nat} {X : Int} (h : E5 w b o X) (hb : Below B w w') (hB : b < B) : E5 w' b o X := by
  obtain ⟨⟨c0, c1, c2, c3, c4, ⟨h0, h1, h2, h3, h4⟩, t, c⟩, ⟨f0, f1, f2, f3, f4⟩⟩ := h
  exact ⟨⟨c0, c1, c2, c3, c4, ⟨(hb.cell hB).trans h0, (hb.cell hB).trans h1, (hb.cell hB).trans h2, (hb.cell hB).trans h3, (hb.cell hB).trans h4⟩, t, c⟩,
    ⟨(hb.frozen hB).trans f0, (hb.frozen hB).trans f1, (hb.frozen hB).trans f2, (hb.frozen hB).trans f3, (hb.frozen hB).trans f4⟩⟩
theorem Room.below {w w' : World} {B b o : Nat} (h : Room w b o) (hb : Below B w w') (hB : b < B) : Room w' b o := by
  obtain ⟨⟨c0, c1, c2, c3, c4, ⟨h0, h1, h2, h3, h4⟩⟩, ⟨f0, f1, f2, f3, f4⟩⟩ := h
  exact ⟨⟨c0, c1, c2, c3, c4, ⟨(hb.cell hB).trans h0, (hb.cell hB).trans h1, (hb.cell hB).trans h2, (hb.cell hB).trans h3, (hb.cell hB).trans h4⟩⟩,
    ⟨(hb.frozen hB).trans f0, (hb.frozen hB).trans f1, (hb.frozen hB).trans f2, (hb.frozen hB).trans f3, (hb.frozen hB).trans f4⟩⟩

theorem limbs_put {w : World} {b j : Nat} {x : Value} {i : Nat} (hc : (w.cell? ⟨b, i, none⟩).isSome = true) (h : j = i) : (w.setCell ⟨b, j, none⟩ x).cell? ⟨b, i, none⟩ = some x := by
  subst h; exact World.cell?_setCell_same' w _ x hc
theorem limbs_past {w : World} {b j i : Nat} {x : Value} (h : j ≠ i) : (w.setCell ⟨b, j, none⟩ x).cell? ⟨b, i, none⟩ = w.cell? ⟨b, i, none⟩ :=
  World.cell?_setCell_other _ _ _ _ (by intro e; exact h (congrArg Addr.off e))

theorem isSome_set {w : World} {b j i : Nat} {x : Value} (h : (w.cell? ⟨b, i, none⟩).isSome = true) : ((w.setCell ⟨b, j, none⟩ x).cell? ⟨b, i, none⟩).isSome = true := by
  by_cases e : j = i
  · rw [limbs_put h e]; rfl
  · rw [limbs_past e]; exact h

theorem put5_limbs {w : World} {b o : Nat} {d0 d1 d2 d3 d4 : Int} (h : ∃ c0 c1 c2 c3 c4 : Int, Limbs w b o c0 c1 c2 c3 c4) : Limbs (put5 w b o d0 d1 d2 d3 d4) b o d0 d1 d2 d3 d4 := by
  obtain ⟨c0, c1, c2, c3, c4, h0, h1, h2, h3, h4⟩ := h
  have s0 : (w.cell? ⟨b, o, none⟩).isSome = true := by rw [h0]; rfl
  have s1 : (w.cell? ⟨b, o + 1, none⟩).isSome = true := by rw [h1]; rfl
  have s2 : (w.cell? ⟨b, o + 2, none⟩).isSome = true := by rw [h2]; rfl
  have s3 : (w.cell? ⟨b, o + 3, none⟩).isSome = true := by rw [h3]; rfl
  have s4 : (w.cell? ⟨b, o + 4, none⟩).isSome = true := by rw [h4]; rfl
  unfold put5
  refine ⟨?_, ?_, ?_, ?_, ?_⟩
  · rw [limbs_past (by omega), limbs_past (by omega), limbs_past (by omega), limbs_past (by omega)]; exact limbs_put s0 rfl
  · rw [limbs_past (by omega), limbs_past (by omega), limbs_past (by omega)]; exact limbs_put (isSome_set s1) rfl
  · rw [limbs_past (by omega), limbs_past (by omega)]; exact limbs_put (isSome_set (isSome_set s2)) rfl
  · rw [limbs_past (by omega)]; exact limbs_put (isSome_set (isSome_set (isSome_set s3))) rfl
  · exact limbs_put (isSome_set (isSome_set (isSome_set (isSome_set s4)))) rfl

theorem put5_upd (w : World) (b o : Nat) (d0 d1 d2 d3 d4 : Int) : Upd w (put5 w b o d0 d1 d2 d3 d4) b o 5 := by
  unfold put5
  exact ((((((Upd.refl w b o 5).setCell (by omega) (by omega) _).setCell (by omega) (by omega) _).setCell (by omega) (by omega) _).setCell (by omega) (by omega) _).setCell (by omega) (by omega) _)

/-- The call returned v; at b, o lies X now; nothing else that was there has turned. -/
def Did (w : World) (b o : Nat) (X : Int) (v : Value) (e : Ending) (w' : World) : Prop := e = .returned v ∧ E5 w' b o X ∧ Upd w w' b o 5

theorem Wrote.did {w : World} {b o : Nat} {V : Int} {v : Value} {e : Ending} {w' : World} (h : Wrote w b o V v e w') (hr : Room w b o) : Did w b o V v e w' := by
  obtain ⟨c0, c1, c2, c3, c4, k, W, rfl, hb, rfl, ht, hk⟩ := h
  have hlt := hr.lt
  have hr' := hr.below hb hlt
  have hu := (Upd.of_below b o 5 hb hlt).trans (put5_upd W b o c0 c1 c2 c3 c4)
  exact ⟨rfl, ⟨⟨c0, c1, c2, c3, c4, put5_limbs hr'.1, ht, k, hk⟩, hu.free hlt hr.2⟩, hu⟩
end Go.Proofs.YtflmkgecgijncaaDoor
