/-
  What the row of FnExactParse gives the walk: the field's variables and the library's table; a slice of bytes.
-/
import Derived.Test.YtflmkgecgijncaaDoorF25
import Derived.Test.YtflmkgecgijncaaDoorF35
import Derived.Lib.LaidTab
namespace Go.Proofs.YtflmkgecgijncaaDoor
open Go.ChangeShapes Go.WideShapes Go.ChangeAt Go.RowKit

abbrev laidF6 : List (String × DataW Unit) := [("math/bits.deBruijn32tab", Rows.laid_math_bits_deBruijn32tab), ("math/bits.deBruijn64tab", Rows.laid_math_bits_deBruijn64tab), ("internal/strconv.uint64pow10", Rows.laid_internal_strconv_uint64pow10), ("loop.example/pub-g03339/pub/field.feZero", Rows.laid_loop_example_pub_g03339_pub_field_feZero), ("loop.example/pub-g03339/pub/field.feOne", Rows.laid_loop_example_pub_g03339_pub_field_feOne), ("loop.example/pub-g03339/pub/field.sqrtM1", Rows.laid_loop_example_pub_g03339_pub_field_sqrtM1)]
theorem gSqrt : Tryd.prog.globalNamed "loop.example/pub-g03339/pub/field.sqrtM1" = some 1 := by kernel_rfl
theorem tSqrt : (Tryd.prog.globals[1]?).map (·.type) = some 88 := by kernel_rfl
theorem gZero : Tryd.prog.globalNamed "loop.example/pub-g03339/pub/field.feZero" = some 2 := by kernel_rfl
theorem tZero : (Tryd.prog.globals[2]?).map (·.type) = some 88 := by kernel_rfl
theorem gPow : Tryd.prog.globalNamed "internal/strconv.uint64pow10" = some 3 := by kernel_rfl
theorem tPow : (Tryd.prog.globals[3]?).map (·.type) = some 137 := by kernel_rfl
theorem under137 : Tryd.prog.underlying 137 = some (.array 20 41) := by kernel_rfl
theorem cells137 : Tryd.prog.cellsOf 137 = 20 := by kernel_rfl

/-- A pointer to five words, as it reads. -/
theorem ptr5 {W : World} {name : String} {g fuel : Nat} {cs : Array Value} {p : List MemPlace} {d0 d1 d2 d3 d4 : Int} (hg : Tryd.prog.globalNamed name = some g) (hv : W.var? Tryd.prog name = some cs)
    (hd : DataW.trod (fun _ => ()) Tryd.prog W 0 (fun _ => true) false fuel 88 cs.toList = some (.ptr (.agg [.lit (.int .u64 d0), .lit (.int .u64 d1), .lit (.int .u64 d2), .lit (.int .u64 d3), .lit (.int .u64 d4)]), p)) :
    ∃ pb po : Nat, W.cell? ⟨g, 0, none⟩ = some (.pointer (some ⟨pb, po, none⟩)) ∧ Limbs W pb po d0 d1 d2 d3 d4 := by
  rcases DataW.trod_pointer under88 hd with ⟨_, hx⟩ | ⟨a, cs', y, n, _, hcs, hx, hcells, hy⟩
  · simp at hx
  have h0 : W.cell? ⟨g, 0, none⟩ = some (.pointer (some a)) := by
    have := World.var?_cell hg hv 0
    rw [Array.eq_one_of_toList hcs] at this
    simpa using this
  rw [cells80] at hcells
  obtain ⟨_, hlen, hcell⟩ := World.cells?_some hcells
  obtain ⟨b, off, spot⟩ := a
  obtain ⟨y1, y2⟩ := y
  have hy1 : y1 = .agg [.lit (.int .u64 d0), .lit (.int .u64 d1), .lit (.int .u64 d2), .lit (.int .u64 d3), .lit (.int .u64 d4)] := by
    have := congrArg Prod.fst hx
    simp only [DataW.ptr.injEq] at this
    exact this.symm
  subst hy1
  obtain ⟨c0, c1, c2, c3, c4⟩ := open80 hy
  have g0 := hcell 0 (by decide)
  rw [c0] at g0
  have hspot : spot = none := by simpa [Addr.add] using World.cell?_spot g0
  subst hspot
  have g1 := hcell 1 (by decide)
  have g2 := hcell 2 (by decide)
  have g3 := hcell 3 (by decide)
  have g4 := hcell 4 (by decide)
  rw [Addr.add_lit] at g0 g1 g2 g3 g4
  exact ⟨b, off, h0, g0, g1.trans c1, g2.trans c2, g3.trans c3, g4.trans c4⟩

theorem tight0 : Tight 0 0 0 0 0 := ⟨by decide, by decide, by decide, by decide, by decide⟩
theorem tightS : Tight 1718705420411056 234908883556509 2233514472574048 2117202627021982 765476049583133 := ⟨by decide, by decide, by decide, by decide, by decide⟩
theorem r5_of {w : World} {b o : Nat} {c0 c1 c2 c3 c4 X : Int} (h : Limbs w b o c0 c1 c2 c3 c4) (t : Tight c0 c1 c2 c3 c4) (g : Cg (val c0 c1 c2 c3 c4) X) : R5 w b o X := ⟨c0, c1, c2, c3, c4, h, t, g⟩

theorem glob_of_laid {W : World} (h : laidMetH Tryd.prog laidF6 W) : Glob W ∧ Tab W := by
  rw [MakeChecks.laidMetH_plain _ _ _ (by kernel_rfl)] at h
  obtain ⟨ps, h1, _⟩ := h
  obtain ⟨_, _, _, _, _, _, _, _, _, _, h2, _⟩ := h1
  obtain ⟨_, _, _, _, _, _, _, _, _, _, h3, _⟩ := h2
  obtain ⟨g, t, cs, fuel, p, q, hg, ht, hv, hd, h4, _⟩ := h3
  have T : Tab W := by
    obtain rfl := Option.some.inj (gPow.symm.trans hg)
    obtain rfl := Option.some.inj (tPow.symm.trans ht)
    have e := Lib.cells_of_tab (k := .u64) (zs := Lib.pow10Tab) under137 under41 cells41 cells137 hd
    unfold Tab Lib.TabIs
    rw [hv, ← e]
  clear hg ht hv hd
  obtain ⟨g, t, cs, fuel, p, q, hg, ht, hv, hd, h5, _⟩ := h4
  obtain rfl := Option.some.inj (gZero.symm.trans hg)
  obtain rfl := Option.some.inj (tZero.symm.trans ht)
  obtain ⟨zb, zo, z0, z1⟩ := ptr5 hg hv hd
  clear hg ht hv hd
  obtain ⟨g, t, cs, fuel, p, q, hg, ht, hv, hd, h6, _⟩ := h5
  obtain rfl := Option.some.inj (gOne.symm.trans hg)
  obtain rfl := Option.some.inj (tOne.symm.trans ht)
  obtain ⟨ob, oo, o0, o1⟩ := ptr5 hg hv hd
  clear hg ht hv hd
  obtain ⟨g, t, cs, fuel, p, q, hg, ht, hv, hd, _, _⟩ := h6
  obtain rfl := Option.some.inj (gSqrt.symm.trans hg)
  obtain rfl := Option.some.inj (tSqrt.symm.trans ht)
  obtain ⟨sb, so, s0, s1⟩ := ptr5 hg hv hd
  exact ⟨⟨⟨ob, oo, o0, o1⟩, ⟨zb, zo, z0, r5_of z1 tight0 ⟨0, by decide⟩⟩, ⟨sb, so, _, s0, r5_of s1 tightS (Cg.refl _)⟩⟩, T⟩

theorem trodVars_three {H : Type} {enc : TypeId × Value → H} {P : Program} {w : World} {spare : Nat → Bool} {n0 n1 n2 : String} {gs : List (DataW H)} {ps : List MemPlace} (h : DataW.TrodVars enc P w spare [n0, n1, n2] gs ps) : ∃ d0 d1 d2, gs = [d0, d1, d2] := by
  cases gs with
  | nil => simp [DataW.TrodVars] at h
  | cons d0 ds =>
    obtain ⟨g, t, cs, fuel, p, q, _, _, _, _, hs, _⟩ := h
    cases ds with
    | nil => simp [DataW.TrodVars] at hs
    | cons d1 ds =>
      obtain ⟨g, t, cs, fuel, p, q, _, _, _, _, hs, _⟩ := hs
      cases ds with
      | nil => simp [DataW.TrodVars] at hs
      | cons d2 ds =>
        obtain ⟨g, t, cs, fuel, p, q, _, _, _, _, hs, _⟩ := hs
        obtain ⟨rfl, rfl⟩ := trodVars_none hs
        exact ⟨d0, d1, d2, rfl⟩

set_option maxRecDepth 100000 in
/-- A slice of bytes that came in: it is nil, or it leads to bytes. -/
theorem open36 {H : Type} {enc : TypeId × Value → H} {W : World} {base : Nat} {v : Value} {d : DataW H} {p : List MemPlace} (hval : Value.okWide Tryd.prog W .any base 36 v)
    (h : DataW.Trod enc Tryd.prog W 0 (fun _ => true) true 36 v d p) : v = .slice none 0 0 ∨ ∃ a n c f, v = .slice (some a) n c ∧ Byt f ∧ SB W a n f := by
  obtain ⟨a0, len0, cap0, rfl⟩ := okWide_slice Tryd.underlying36 hval
  obtain ⟨fuel, hf⟩ := h
  rcases open_ints Tryd.underlying36 under5 cells5 hf with ⟨hcs, _⟩ | ⟨x, l, c, zs, hcs, _, hl, hm, hz, _, hcell, hwz⟩
  · simp [Value.cells] at hcs
    obtain ⟨rfl, rfl, rfl⟩ := hcs
    exact Or.inl rfl
  · simp [Value.cells] at hcs
    obtain ⟨rfl, rfl, rfl⟩ := hcs
    refine Or.inr ⟨x, len0, cap0, fun j => zs.getD j 0, rfl, fun j => ?_, ?_⟩
    · by_cases hj : j < zs.length
      · have := hwz (zs.getD j 0) (by rw [List.getD_eq_getElem?_getD, List.getElem?_eq_getElem hj]; exact List.getElem_mem hj)
        exact bounds_u8 this
      · simp [List.getD, List.getElem?_eq_none (by omega : zs.length ≤ j)]
    · by_cases h0 : len0 = 0
      · exact Or.inl h0
      · have hz' : zs.length = cap0 := by simpa using hz
        obtain ⟨b, off, spot⟩ := x
        have hspot : spot = none := by simpa [Addr.add] using World.cell?_spot (hcell 0 (by omega))
        subst hspot
        exact Or.inr ⟨rfl, fun j hj => by have := hcell j (by omega); rwa [Addr.add_lit] at this⟩
end Go.Proofs.YtflmkgecgijncaaDoor
