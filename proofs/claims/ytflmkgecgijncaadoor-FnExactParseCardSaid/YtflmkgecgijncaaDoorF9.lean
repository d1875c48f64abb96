/-
  Multiply, Square, SquareN: elements in, an element out.
-/
import Derived.Test.YtflmkgecgijncaaDoorF4
import Derived.Test.YtflmkgecgijncaaDoorF6
import Derived.Test.YtflmkgecgijncaaDoorF8
namespace Go.Proofs.YtflmkgecgijncaaDoor
open Go.RowKit Go.Shelf

theorem Did.cg {w : World} {b o : Nat} {X Y : Int} {v : Value} {e : Ending} {w' : World} (h : Did w b o X v e w') (g : Cg X Y) : Did w b o Y v e w' := ⟨h.1, h.2.1.cg g, h.2.2⟩

set_option maxHeartbeats 400000 in
theorem feMul_any (bv ov ba oa bb ob : Nat) (A B : Int) (w : World) (ha : E5 w ba oa A) (hb : E5 w bb ob B) (hv : Room w bv ov) :
    Calls Tryd.prog 78 #[.pointer (some ⟨bv, ov, none⟩), .pointer (some ⟨ba, oa, none⟩), .pointer (some ⟨bb, ob, none⟩)] w (Did w bv ov (A * B) (.tuple #[])) := by
  obtain ⟨⟨a0, a1, a2, a3, a4, la, ta, ca⟩, -⟩ := ha
  obtain ⟨⟨b0, b1, b2, b3, b4, lb, tb, cb⟩, -⟩ := hb
  have H : Hid (Limbs w ba oa a0 a1 a2 a3 a4 ∧ Tight a0 a1 a2 a3 a4 ∧ Limbs w bb ob b0 b1 b2 b3 b4 ∧ Tight b0 b1 b2 b3 b4 ∧ Room w bv ov) := hid ⟨la, ta, lb, tb, hv⟩
  have G : Hid (Cg (val a0 a1 a2 a3 a4 * val b0 b1 b2 b3 b4) (A * B)) := hid (ca.mul cb)
  clear la ta ca lb tb cb hv
  go_enter Tryd.func78, Tryd.ntmps78
  go_wp2_with fail
  refine (feMulGeneric_any bv ov ba oa bb ob a0 a1 a2 a3 a4 b0 b1 b2 b3 b4 _ H.out.2.2.2.2 H.out.1 H.out.2.2.1 H.out.2.1.small H.out.2.2.2.1.small).mono ?_
  intro e w1 hw
  have hd := ((hw.did H.out.2.2.2.2).cg (mul_val _ _ _ _ _ _ _ _ _ _)).cg G.out
  obtain ⟨rfl, h1, h2⟩ := hd
  have Q : Hid (E5 w1 bv ov (A * B) ∧ Upd w w1 bv ov 5) := hid ⟨h1, h2⟩
  clear h1 h2 hw
  go_wp2_with fail
  go_end0
  exact ⟨rfl, Q.out⟩

set_option maxHeartbeats 400000 in
theorem Multiply_any (bv ov ba oa bb ob : Nat) (A B : Int) (w : World) (ha : E5 w ba oa A) (hb : E5 w bb ob B) (hv : Room w bv ov) :
    Calls Tryd.prog 68 #[.pointer (some ⟨bv, ov, none⟩), .pointer (some ⟨ba, oa, none⟩), .pointer (some ⟨bb, ob, none⟩)] w (Did w bv ov (A * B) (.pointer (some ⟨bv, ov, none⟩))) := by
  have H : Hid (E5 w ba oa A ∧ E5 w bb ob B ∧ Room w bv ov) := hid ⟨ha, hb, hv⟩
  clear ha hb hv
  go_enter Tryd.func68, Tryd.ntmps68
  go_wp2_with fail
  refine (feMul_any bv ov ba oa bb ob A B _ H.out.1 H.out.2.1 H.out.2.2).mono ?_
  rintro e w1 ⟨rfl, h1, h2⟩
  have Q : Hid (E5 w1 bv ov (A * B) ∧ Upd w w1 bv ov 5) := hid ⟨h1, h2⟩
  clear h1 h2
  go_wp2_with fail
  go_ret
  exact ⟨rfl, Q.out⟩

set_option maxHeartbeats 400000 in
theorem Square_any (bv ov ba oa : Nat) (A : Int) (w : World) (ha : E5 w ba oa A) (hv : Room w bv ov) :
    Calls Tryd.prog 69 #[.pointer (some ⟨bv, ov, none⟩), .pointer (some ⟨ba, oa, none⟩)] w (Did w bv ov (A * A) (.pointer (some ⟨bv, ov, none⟩))) := by
  obtain ⟨⟨a0, a1, a2, a3, a4, la, ta, ca⟩, -⟩ := ha
  have H : Hid (Limbs w ba oa a0 a1 a2 a3 a4 ∧ Tight a0 a1 a2 a3 a4 ∧ Room w bv ov) := hid ⟨la, ta, hv⟩
  have G : Hid (Cg (val a0 a1 a2 a3 a4 * val a0 a1 a2 a3 a4) (A * A)) := hid (ca.mul ca)
  clear la ta ca hv
  go_enter Tryd.func69, Tryd.ntmps69
  go_wp2_with fail
  refine (feSquare_any bv ov ba oa a0 a1 a2 a3 a4 _ H.out.2.2 H.out.1 H.out.2.1.small).mono ?_
  intro e w1 hw
  have hd := ((hw.did H.out.2.2).cg (sq_val _ _ _ _ _)).cg G.out
  obtain ⟨rfl, h1, h2⟩ := hd
  have Q : Hid (E5 w1 bv ov (A * A) ∧ Upd w w1 bv ov 5) := hid ⟨h1, h2⟩
  clear h1 h2 hw
  go_wp2_with fail
  go_ret
  exact ⟨rfl, Q.out⟩

set_option maxHeartbeats 400000 in
theorem SquareN_any (bv ov ba oa n : Nat) (A : Int) (w : World) (ha : E5 w ba oa A) (hv : Room w bv ov) (hn : n ≤ 1000) :
    Calls Tryd.prog 81 #[.pointer (some ⟨bv, ov, none⟩), .pointer (some ⟨ba, oa, none⟩), .int .i64 n] w (Did w bv ov (A ^ (2 ^ n)) (.pointer (some ⟨bv, ov, none⟩))) := by
  obtain ⟨⟨a0, a1, a2, a3, a4, la, ta, ca⟩, -⟩ := ha
  have H : Hid (Limbs w ba oa a0 a1 a2 a3 a4 ∧ Tight a0 a1 a2 a3 a4 ∧ Room w bv ov) := hid ⟨la, ta, hv⟩
  have G : Hid (Cg (val a0 a1 a2 a3 a4 ^ (2 ^ n)) (A ^ (2 ^ n))) := hid (ca.pow _)
  clear la ta ca hv
  go_enter Tryd.func81, Tryd.ntmps81
  go_wp2_with fail
  refine (feSquareN_any bv ov ba oa n a0 a1 a2 a3 a4 _ H.out.2.2 H.out.1 H.out.2.1 hn).mono ?_
  intro e w1 hw
  have hd := (hw.did H.out.2.2).cg G.out
  obtain ⟨rfl, h1, h2⟩ := hd
  have Q : Hid (E5 w1 bv ov (A ^ (2 ^ n)) ∧ Upd w w1 bv ov 5) := hid ⟨h1, h2⟩
  clear h1 h2 hw
  go_wp2_with fail
  go_ret
  exact ⟨rfl, Q.out⟩
end Go.Proofs.YtflmkgecgijncaaDoor
