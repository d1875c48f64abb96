/-
  A region's end is said once, whatever order it was walked in; an array is stored within such a region.
-/
import Derived.Test.YtflmkgecgijncaaDoorF24
namespace Go.Proofs.YtflmkgecgijncaaDoor
open Go.RowKit Go.Shelf

/-- R at the region's plain end, nothing else. -/
def AtEnd (R : Act → World → Prop) : Exit → Act → World → Prop
  | .normal, a, w => R a w
  | _, _, _ => False

theorem region_cut {id : Nat} {ops : Array Oper} {b : Bool} {Q : Exit → Act → World → Prop} {a : Act} {w : World} (R : Act → World → Prop) (h : (Code.region id ops b).wp Tryd.prog (AtEnd R) a w)
    (hR : ∀ a w, R a w → Q .normal a w) : (Code.region id ops b).wp Tryd.prog Q a w :=
  Code.wp_mono (fun e a w h => by cases e <;> first | exact hR a w h | exact (h : False).elim) h

theorem step_store_arr {ops : Array Oper} {o : Oper} {a : Act} {w : World} {K : Act → World → Prop} {Q : Exit → Act → World → Prop} {E : Prop} (hw : Region.wanted o (yielded ops a.tmps) = true) (x y : Operand) (ho : o.op = .store 22 x y)
    (g : Nat) (f : Nat → Int) (X old : Array Value) (hx : a.eval x = .pointer (some ⟨g, 0, none⟩)) (hy : a.eval y = .agg X) (hg : Hid (w.heap[g]? = some (.cells old 22 (0, 0)) ∧ old.size = 32)) (hX : Hid (X = (bvals f).toArray))
    (B : Nat) (w0 : World) (hb : Below B w0 w ∧ B ≤ g)
    (h : ∀ w', Arr w' g f → Below B w0 w' → K (a.put o.dst undef) w') : if Region.wanted o (yielded ops a.tmps) = true then Oper.wp Tryd.prog o a w K Q else E := by
  rw [if_pos hw]
  have hX' := hX.out
  subst hX'
  refine wp_store_row 22 x y ho g _ hx hy 22 old hg.out.1 (by rw [info22]; simp [bvals_len]) (by rw [hg.out.2]; simp [bvals_len]) (one_bvals f) ?_
  exact h _ (setRow_heap w g old _ 22 (0, 0) hg.out.1) (below_setRow hb.1 hb.2 _)

theorem cells_after {w w' : World} {g : Nat} {old : Array Value} (h : Hid (w.heap[g]? = some (.cells old 22 (0, 0)) ∧ old.size = 32)) (hb : Hid (Below w.heap.size w w')) : Hid (w'.heap[g]? = some (.cells old 22 (0, 0)) ∧ old.size = 32) :=
  hid ⟨(hb.out.block _ (obj_lt h.out.1)).trans h.out.1, h.out.2⟩
end Go.Proofs.YtflmkgecgijncaaDoor
