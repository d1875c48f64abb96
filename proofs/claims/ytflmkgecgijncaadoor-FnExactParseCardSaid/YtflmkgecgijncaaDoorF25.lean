/-
  What a row's condition gives the walks: arrays of 32 bytes, and the field's one.
-/
import Derived.Test.YtflmkgecgijncaaDoorF24
import Derived.Test.YtflmkgecgijncaaDoorTie
import Derived.WalkKit
import Derived.ProofKit
import Derived.OpenShut
import Derived.ChangeOld
import Derived.Below
import Derived.OpenVars
import Derived.LaidMore
import Derived.Lay
import Derived.MakeChecks
import Derived.Stop.Joined
import Derived.SevenTiedAt
namespace Go.Proofs.YtflmkgecgijncaaDoor
open Go.ChangeShapes Go.WideShapes Go.ChangeAt Go.RowKit

theorem own : ownKnob Tryd.prog.godebug = none := by kernel_rfl
theorem laidOut : laidOutB Tryd.prog = true := by kernel_rfl
theorem cells22 : Tryd.prog.cellsOf 22 = 32 := by kernel_rfl

/-- The bytes of an array's cells. -/
def pick (cs : Array Value) (i : Nat) : Int := match cs.toList[i]? with | some (.int _ n) => n | _ => 0
theorem pick_at {cs : Array Value} {i : Nat} {n : Int} (h : cs.toList[i]? = some (.int .u8 n)) : pick cs i = n := by unfold pick; rw [h]
theorem pick_byt {cs : Array Value} (h : ∀ i, i < 32 → ∃ n, cs.toList[i]? = some (.int .u8 n) ∧ (Lit.int .u8 n).wf = true) : Byt (fun i => if i < 32 then pick cs i else 0) := by
  intro j
  by_cases hj : j < 32
  · obtain ⟨n, e, hw⟩ := h j hj
    simp only [hj, if_true]
    rw [pick_at e]; exact bounds_u8 hw
  · simp only [hj, if_false]; decide
theorem pick_eq {cs : Array Value} (hn : cs.size = 32) (h : ∀ i, i < 32 → ∃ n, cs.toList[i]? = some (.int .u8 n) ∧ (Lit.int .u8 n).wf = true) : cs = (bvals (fun i => if i < 32 then pick cs i else 0)).toArray := by
  have e : cs.toList = bvals (fun i => if i < 32 then pick cs i else 0) := by
    apply List.ext_getElem?
    intro i
    by_cases hi : i < 32
    · obtain ⟨n, e, _⟩ := h i hi
      rw [bvals_get _ i hi, e]
      simp only [hi, if_true]
      rw [pick_at e]
    · rw [List.getElem?_eq_none (by simp; omega), List.getElem?_eq_none (by rw [bvals_len]; omega)]
  rw [← e]

set_option maxRecDepth 100000 in
theorem open22 {H : Type} {enc : TypeId × Value → H} {W : World} {base : Nat} {v : Value} {d : DataW H} {p : List MemPlace} (hval : Value.okWide Tryd.prog W .any base 22 v)
    (h : DataW.Trod enc Tryd.prog W 0 (fun _ => true) true 22 v d p) : ∃ f, Byt f ∧ v = .agg (bvals f).toArray := by
  simp only [Value.okWide, under22] at hval
  obtain ⟨cs, rfl, hn, _⟩ := hval
  rw [cells22] at hn
  obtain ⟨fuel, hf⟩ := h
  obtain ⟨xs, m, rfl, _, hlen, hxs, hel⟩ := DataW.trod_array under22 hf
  have hel' : ∀ i, i < 32 → ∃ n, cs.toList[i]? = some (.int .u8 n) ∧ (Lit.int .u8 n).wf = true := by
    intro i hi
    have h := hel i hi
    rw [cells5, Nat.mul_one] at h
    rw [List.getElem?_eq_getElem (show i < xs.length by omega)] at h
    obtain ⟨n, e, _, hw⟩ := DataW.trod_int under5 h
    refine ⟨n, ?_, hw⟩
    have := congrArg (fun l : List Value => l[0]?) e
    simpa [Value.cells] using this
  exact ⟨_, pick_byt hel', congrArg Value.agg (pick_eq hn hel')⟩

abbrev laidF : List (String × DataW Unit) := [("loop.example/pub-g03339/pub/field.feOne", Rows.laid_loop_example_pub_g03339_pub_field_feOne)]
theorem gOne : Tryd.prog.globalNamed "loop.example/pub-g03339/pub/field.feOne" = some 0 := by kernel_rfl
theorem tOne : (Tryd.prog.globals[0]?).map (·.type) = some 88 := by kernel_rfl
theorem under88 : Tryd.prog.underlying 88 = some (.pointer 80) := by kernel_rfl
theorem cells80 : Tryd.prog.cellsOf 80 = 5 := by kernel_rfl

theorem str80 : Tryd.prog.underlying 80 = some (.struct (Tryd.prog.fieldsOf 80)) := by kernel_rfl
theorem size80 : (Tryd.prog.fieldsOf 80).size = 5 := by kernel_rfl
theorem f80_0 : ((Tryd.prog.fieldsOf 80)[0]?).map (fun f => (f.type, f.offset)) = some (41, 0) := by kernel_rfl
theorem f80_1 : ((Tryd.prog.fieldsOf 80)[1]?).map (fun f => (f.type, f.offset)) = some (41, 1) := by kernel_rfl
theorem f80_2 : ((Tryd.prog.fieldsOf 80)[2]?).map (fun f => (f.type, f.offset)) = some (41, 2) := by kernel_rfl
theorem f80_3 : ((Tryd.prog.fieldsOf 80)[3]?).map (fun f => (f.type, f.offset)) = some (41, 3) := by kernel_rfl
theorem f80_4 : ((Tryd.prog.fieldsOf 80)[4]?).map (fun f => (f.type, f.offset)) = some (41, 4) := by kernel_rfl
theorem field80 : ∀ i, i < 5 → ∃ f, (Tryd.prog.fieldsOf 80)[i]? = some f ∧ f.type = 41 ∧ f.offset = i := by
  have h : ∀ i, i < 5 → ((Tryd.prog.fieldsOf 80)[i]?).map (fun f => (f.type, f.offset)) = some (41, i) := by
    intro i hi
    match i, hi with
    | 0, _ => exact f80_0
    | 1, _ => exact f80_1
    | 2, _ => exact f80_2
    | 3, _ => exact f80_3
    | 4, _ => exact f80_4
  intro i hi
  obtain ⟨f, e, h2⟩ := Option.map_eq_some_iff.1 (h i hi)
  exact ⟨f, e, congrArg Prod.fst h2, congrArg Prod.snd h2⟩
theorem under41 : Tryd.prog.underlying 41 = some (.int .u64) := by kernel_rfl
theorem cells41 : Tryd.prog.cellsOf 41 = 1 := by kernel_rfl

theorem open80 {H : Type} {enc : TypeId × Value → H} {W : World} {base fuel : Nat} {spare : Nat → Bool} {held : Bool} {cs : List Value} {d0 d1 d2 d3 d4 : Int} {q : List MemPlace}
    (h : DataW.trod enc Tryd.prog W base spare held fuel 80 cs = some (.agg [.lit (.int .u64 d0), .lit (.int .u64 d1), .lit (.int .u64 d2), .lit (.int .u64 d3), .lit (.int .u64 d4)], q)) :
    cs[0]? = some (.int .u64 d0) ∧ cs[1]? = some (.int .u64 d1) ∧ cs[2]? = some (.int .u64 d2) ∧ cs[3]? = some (.int .u64 d3) ∧ cs[4]? = some (.int .u64 d4) := by
  obtain ⟨xs, m, _, hx, _, hlen, hel⟩ := DataW.trod_struct str80 h
  rw [size80] at hlen
  have hx1 := congrArg Prod.fst hx
  simp only [DataW.agg.injEq] at hx1
  have go : ∀ i, i < 5 → ∃ k, cs[i]? = some (.int .u64 k) ∧ (xs.map (·.1))[i]? = some (.lit (.int .u64 k)) := by
    intro i hi
    obtain ⟨f, e, ht, ho⟩ := field80 i hi
    have h := hel i f e
    rw [ht, ho, cells41, List.getElem?_eq_getElem (show i < xs.length by omega)] at h
    obtain ⟨k, e1, e2, _⟩ := DataW.trod_int under41 h
    refine ⟨k, ?_, ?_⟩
    · have := congrArg (fun l : List Value => l[0]?) e1
      simpa using this
    · rw [List.getElem?_map, List.getElem?_eq_getElem (show i < xs.length by omega), e2]; rfl
  have get : ∀ i, i < 5 → ∀ d, [(DataW.lit (.int .u64 d0) : DataW H), .lit (.int .u64 d1), .lit (.int .u64 d2), .lit (.int .u64 d3), .lit (.int .u64 d4)][i]? = some (.lit (.int .u64 d)) → cs[i]? = some (.int .u64 d) := by
    intro i hi d hd
    obtain ⟨k, e1, e2⟩ := go i hi
    rw [← hx1, hd] at e2
    simp only [Option.some.injEq, DataW.lit.injEq, Lit.int.injEq, true_and] at e2
    rw [e1, e2]
  exact ⟨get 0 (by decide) _ rfl, get 1 (by decide) _ rfl, get 2 (by decide) _ rfl, get 3 (by decide) _ rfl, get 4 (by decide) _ rfl⟩

theorem one_of_laid {W : World} (h : laidMetH Tryd.prog laidF W) : One5 W := by
  rw [MakeChecks.laidMetH_plain _ _ _ (by kernel_rfl)] at h
  obtain ⟨ps, ⟨g0, t0, cs0, f0, p0, q0, hg0, ht0, hv0, hd0, _, _⟩, _, _⟩ := h
  obtain rfl := Option.some.inj (gOne.symm.trans hg0)
  obtain rfl := Option.some.inj (tOne.symm.trans ht0)
  rcases DataW.trod_pointer under88 hd0 with ⟨_, hx⟩ | ⟨a, cs', y, n, _, hcs, hx, hcells, hy⟩
  · simp [Rows.laid_loop_example_pub_g03339_pub_field_feOne] at hx
  have h0 : W.cell? ⟨0, 0, none⟩ = some (.pointer (some a)) := by
    have := World.var?_cell hg0 hv0 0
    rw [Array.eq_one_of_toList hcs] at this
    simpa using this
  rw [cells80] at hcells
  obtain ⟨_, hlen, hcell⟩ := World.cells?_some hcells
  obtain ⟨b, off, spot⟩ := a
  obtain ⟨y1, y2⟩ := y
  have hy1 : y1 = .agg [.lit (.int .u64 1), .lit (.int .u64 0), .lit (.int .u64 0), .lit (.int .u64 0), .lit (.int .u64 0)] := by
    have := congrArg Prod.fst hx
    simp only [Rows.laid_loop_example_pub_g03339_pub_field_feOne, DataW.ptr.injEq] at this
    exact this.symm
  subst hy1
  obtain ⟨c0, c1, c2, c3, c4⟩ := open80 hy
  have g0 := hcell 0 (by decide)
  rw [c0] at g0
  have hspot : spot = none := by simpa [Addr.add] using World.cell?_spot g0
  subst hspot
  have g1 := hcell 1 (by decide)
  have g2 := hcell 2 (by decide)
  have g3 := hcell 3 (by decide)
  have g4 := hcell 4 (by decide)
  rw [Addr.add_lit] at g0 g1 g2 g3 g4
  exact ⟨b, off, h0, g0, g1.trans c1, g2.trans c2, g3.trans c3, g4.trans c4⟩
end Go.Proofs.YtflmkgecgijncaaDoor
