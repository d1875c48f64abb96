/-
  Arrays of 32 bytes in regions: loaded, built, held against each other.
-/
import Derived.Test.YtflmkgecgijncaaDoorF19
import Derived.ChangeKeysEq
import Derived.Deep.RegionHeld3
namespace Go.Proofs.YtflmkgecgijncaaDoor
open Go.RowKit Go.Shelf

theorem key5 : Tryd.prog.plainKey 5 = true := by kernel_rfl
theorem cells5 : Tryd.prog.cellsOf 5 = 1 := by kernel_rfl
theorem under22 : Tryd.prog.underlying 22 = some (.array 32 5) := by kernel_rfl
theorem under5 : Tryd.prog.underlying 5 = some (.int .u8) := by kernel_rfl
theorem guard22 : Tryd.prog.eqGuardType Tryd.prog.depth 22 = false := by kernel_rfl
theorem some5 : ∃ i, Tryd.prog.info? 5 = some i := by
  have h : (Tryd.prog.info? 5).isSome = true := by kernel_rfl
  exact Option.isSome_iff_exists.1 h

theorem run_items (d : Nat) (f g : Nat → Int) (w : World) : ∀ is : List Nat, (∀ i ∈ is, i < 32) →
    (Op.eqItems (d + 1) 5 1 (bvals f).toArray (bvals g).toArray is).run Tryd.prog w = .ok (is.all fun i => f i == g i) w
  | [], _ => rfl
  | i :: is, h => by
    have hi := h i (by simp)
    have gf : (bvals f).toArray[i * 1]? = some (.int .u8 (f i)) := by rw [Nat.mul_one, List.getElem?_toArray]; exact bvals_get f i hi
    have gg : (bvals g).toArray[i * 1]? = some (.int .u8 (g i)) := by rw [Nat.mul_one, List.getElem?_toArray]; exact bvals_get g i hi
    have ih := run_items d f g w is (fun j hj => h j (by simp [hj]))
    simp only [Op.eqItems, Sem.run_bind, run_part_plain w key5 gf, run_part_plain w key5 gg, Result.andThen_ok, run_equalIn_int w d 5 .u8 .u8 _ _ under5]
    cases hfg : (f i == g i)
    · simp [hfg]
    · simp [hfg, ih]

/-- All 32 are the same. -/
def same (f g : Nat → Int) : Bool := (List.range 32).all fun i => f i == g i

theorem bvals_same (f g : Nat → Int) : same f g = true ↔ bvals f = bvals g := by
  unfold same
  rw [List.all_eq_true]
  constructor
  · intro h
    unfold bvals
    apply List.map_congr_left
    intro j hj
    have := h j hj
    simp only [beq_iff_eq] at this
    rw [this]
  · intro h i hi
    have hi := List.mem_range.1 hi
    have h1 := bvals_get f i hi
    have h2 := bvals_get g i hi
    rw [h, h2] at h1
    simp only [Option.some.injEq, Value.int.injEq, true_and] at h1
    simp [h1]
theorem same_eq {f g : Nat → Int} (h : bvals f = bvals g) : true = same f g := ((bvals_same f g).2 h).symm
theorem same_ne {f g : Nat → Int} (h : bvals f ≠ bvals g) : true = !same f g := by
  cases hs : same f g
  · rfl
  · exact absurd ((bvals_same f g).1 hs) h

theorem run_equal22 (d : Nat) (f g : Nat → Int) (w : World) : (Op.equalIn (d + 2) 22 (.agg (bvals f).toArray) (.agg (bvals g).toArray)).run Tryd.prog w = .ok (same f g) w := by
  obtain ⟨i, hi⟩ := some5
  rw [run_equalIn_array w (d + 1) _ _ under22 hi, cells5, run_items d f g w _ (fun i hi => List.mem_range.1 hi)]; rfl

section
variable {ops : Array Oper} {S : World → Prop} {o : Oper} {a : Act}

theorem y_load (hw : Region.wanted o (yielded ops a.tmps) = true) (x : Operand) (ho : o.op = .load 22 x) (g : Nat) (f : Nat → Int) (X : Array Value)
    (hx : a.eval x = .pointer (some ⟨g, 0, none⟩)) (hX : Hid (X = (bvals f).toArray)) (hS : ∀ w, S w → Arr w g f) : YieldsIf Tryd.prog ops S o (.agg X) a := by
  refine Or.inl ⟨hw, fun w h => ?_⟩
  have hX' := hX.out
  subst hX'
  unfold execOp
  simp only [ho, hx, Instr.loadAt, Instr.sureAddr, Sem.run_bind, Sem.run_pure, Result.andThen_ok, run_loadVar_row w g 22 22 (bvals f).toArray (0, 0) _ (hS w h) Tryd.underlying22 rfl (by rw [info22]; simp [bvals_len])]

theorem y_eql (hw : Region.wanted o (yielded ops a.tmps) = true) (x y : Operand) (t : TypeId) (ho : o.op = .binOp .eql 22 x y t) (f g : Nat → Int) (X Y : Array Value)
    (hx : a.eval x = .agg X) (hy : a.eval y = .agg Y) (hX : Hid (X = (bvals f).toArray)) (hY : Hid (Y = (bvals g).toArray)) (r : Bool) (hr : r = same f g) : YieldsIf Tryd.prog ops S o (.bool r) a := by
  refine Or.inl ⟨hw, fun w _ => ?_⟩
  have hX' := hX.out
  have hY' := hY.out
  subst hX' hY' hr
  unfold execOp
  simp only [ho, hx, hy, Sem.run_bind, Sem.run_pure, Result.andThen_ok, run_eqGuard_agg w .eql 22 x y _ _ guard22, run_eql_struct w 22, run_equal22 9998 f g w]

theorem y_neq (hw : Region.wanted o (yielded ops a.tmps) = true) (x y : Operand) (t : TypeId) (ho : o.op = .binOp .neq 22 x y t) (f g : Nat → Int) (X Y : Array Value)
    (hx : a.eval x = .agg X) (hy : a.eval y = .agg Y) (hX : Hid (X = (bvals f).toArray)) (hY : Hid (Y = (bvals g).toArray)) (r : Bool) (hr : r = !same f g) : YieldsIf Tryd.prog ops S o (.bool r) a := by
  refine Or.inl ⟨hw, fun w _ => ?_⟩
  have hX' := hX.out
  have hY' := hY.out
  subst hX' hY' hr
  unfold execOp
  simp only [ho, hx, hy, Sem.run_bind, Sem.run_pure, Result.andThen_ok, run_eqGuard_agg w .neq 22 x y _ _ guard22, run_neq_struct w 22, run_equal22 9998 f g w]

theorem y_build (hw : Region.wanted o (yielded ops a.tmps) = true) (parts : Array (Nat × Operand)) (ho : o.op = .build 22 parts) (f : Nat → Int) (X : Array Value) (hX : Hid (X = (bvals f).toArray))
    (hb : Tryd.prog.built 22 (parts.map fun (i, x) => (i, a.eval x)).toList = some (bvals f).toArray) : YieldsIf Tryd.prog ops S o (.agg X) a := by
  refine Or.inl ⟨hw, fun w _ => ?_⟩
  have hX' := hX.out
  subst hX'
  unfold execOp
  simp only [ho, Sem.run_bind, run_build w 22 _ _ hb, Result.andThen_ok]; rfl

/-- What yields is a step of a plain walk. -/
theorem wpList_y {rest : List Oper} {w : World} {v : Value} {Q : Exit → Act → World → Prop} (hy : YieldsIf Tryd.prog ops S o v a) (hS : S w) (h : wpList Tryd.prog ops Q rest (a.put o.dst v) w) :
    wpList Tryd.prog ops Q (o :: rest) a w := by
  refine wpList_step fun K hK => ?_
  rcases hy with ⟨hw, hv⟩ | ⟨hw, rfl⟩
  · rw [if_pos hw]
    unfold Oper.wp
    rw [hv w hS]
    exact hK _ _ h
  · rw [if_neg (by rw [hw]; decide)]
    exact hK _ _ h
end

theorem bvals_nine : (bvals nine).toArray = #[.int .u8 9, .int .u8 0, .int .u8 0, .int .u8 0, .int .u8 0, .int .u8 0, .int .u8 0, .int .u8 0, .int .u8 0, .int .u8 0, .int .u8 0, .int .u8 0, .int .u8 0, .int .u8 0, .int .u8 0, .int .u8 0, .int .u8 0, .int .u8 0, .int .u8 0, .int .u8 0, .int .u8 0, .int .u8 0, .int .u8 0, .int .u8 0, .int .u8 0, .int .u8 0, .int .u8 0, .int .u8 0, .int .u8 0, .int .u8 0, .int .u8 0, .int .u8 0] := by kernel_rfl
theorem built_nine : Tryd.prog.built 22 [(0, .int .u8 9)] = some (bvals nine).toArray := by kernel_rfl
theorem built_zero : Tryd.prog.built 22 [] = some (bvals (fun _ => 0)).toArray := by kernel_rfl
end Go.Proofs.YtflmkgecgijncaaDoor
