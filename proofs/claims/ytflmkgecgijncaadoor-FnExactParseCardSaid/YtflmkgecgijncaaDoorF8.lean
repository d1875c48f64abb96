/-
  carryPropagate, Add and Subtract.
-/
import Derived.Test.YtflmkgecgijncaaDoorF3
import Derived.Test.YtflmkgecgijncaaDoorF7
namespace Go.Proofs.YtflmkgecgijncaaDoor
open Go.RowKit Go.Shelf

/-- The first i words from o on in block b have been written: the words are c. -/
structure Acc (w W : World) (b o i : Nat) (c : Nat → Int) : Prop where
  upd : Upd w W b o i
  got : ∀ j, j < i → W.cell? ⟨b, o + j, none⟩ = some (.int .u64 (c j))

theorem Acc.start (w : World) (b o : Nat) (c : Nat → Int) : Acc w w b o 0 c := ⟨Upd.refl _ _ _ _, fun j hj => by omega⟩

theorem Upd.more {w W : World} {b o i : Nat} (h : Upd w W b o i) : Upd w W b o (i + 1) :=
  ⟨h.os, h.tape, h.output, h.size, h.block, fun j hj => h.cell j (by omega), h.froz⟩

theorem Acc.step {w W : World} {b o i : Nat} {c : Nat → Int} (h : Acc w W b o i c) {x : Int} (hs : (W.cell? ⟨b, o + i, none⟩).isSome = true) (hx : x = c i) :
    Acc w (W.setCell ⟨b, o + i, none⟩ (.int .u64 x)).drew b o (i + 1) c := by
  refine ⟨(h.upd.more.setCell (by omega) (by omega) _).drew, fun j hj => ?_⟩
  rw [World.cell?_drew]
  by_cases e : i = j
  · subst e; rw [limbs_put hs rfl, hx]
  · rw [limbs_past (by omega)]; exact h.got j (by omega)

/-- The same place, or one that does not meet it. -/
def Al (b o b' o' : Nat) : Prop := (b' = b ∧ o' = o) ∨ Off b o b' o'

theorem Acc.cell {w W : World} {b o i : Nat} {c : Nat → Int} (h : Acc w W b o i c) {b' o' : Nat} (ha : Al b o b' o') (hb : b' < w.heap.size) (j : Nat) (hj : i ≤ j) (hj' : j < 5) {v : Option Value} (hv : w.cell? ⟨b', o' + j, none⟩ = v) :
    W.cell? ⟨b', o' + j, none⟩ = v := by
  rw [← hv]
  by_cases hne : b' = b
  · subst hne
    unfold Al Off at ha
    by_cases hi : i ≤ 5
    · exact h.upd.cell _ (by omega)
    · omega
  · exact (h.upd.other hb hne _).1

theorem Acc.frozen {w W : World} {b o i : Nat} {c : Nat → Int} (h : Acc w W b o i c) (j : Nat) {v : Bool} (hv : w.frozen? ⟨b, j, none⟩ = v) : W.frozen? ⟨b, j, none⟩ = v := by
  rw [← hv]; exact h.upd.froz _

theorem Acc.limbs {w W : World} {b o : Nat} {c : Nat → Int} (h : Acc w W b o 5 c) : Limbs W b o (c 0) (c 1) (c 2) (c 3) (c 4) :=
  ⟨h.got 0 (by decide), h.got 1 (by decide), h.got 2 (by decide), h.got 3 (by decide), h.got 4 (by decide)⟩

/-- The limbs behind one round of carries. -/
def Carry1 (a0 a1 a2 a3 a4 d0 d1 d2 d3 d4 : Int) : Prop :=
  d0 = a0 % 2251799813685248 + 19 * (a4 / 2251799813685248) ∧ d1 = a1 % 2251799813685248 + a0 / 2251799813685248 ∧ d2 = a2 % 2251799813685248 + a1 / 2251799813685248 ∧
  d3 = a3 % 2251799813685248 + a2 / 2251799813685248 ∧ d4 = a4 % 2251799813685248 + a3 / 2251799813685248

def Carries (w : World) (b o : Nat) (a0 a1 a2 a3 a4 : Int) (v : Value) (e : Ending) (w' : World) : Prop :=
  ∃ d0 d1 d2 d3 d4 : Int, e = .returned v ∧ Carry1 a0 a1 a2 a3 a4 d0 d1 d2 d3 d4 ∧ Limbs w' b o d0 d1 d2 d3 d4 ∧ Upd w w' b o 5

theorem Limbs.drew {w : World} {b o : Nat} {c0 c1 c2 c3 c4 : Int} (h : Limbs w b o c0 c1 c2 c3 c4) : Limbs w.drew b o c0 c1 c2 c3 c4 := h

/-- Five words written in carryPropagate's order. -/
def cpw (w : World) (b o : Nat) (d0 d1 d2 d3 d4 : Int) : World :=
  ((((w.setCell ⟨b, o, none⟩ (.int .u64 d0)).setCell ⟨b, o + 4, none⟩ (.int .u64 d4)).setCell ⟨b, o + 3, none⟩ (.int .u64 d3)).setCell ⟨b, o + 2, none⟩ (.int .u64 d2)).setCell ⟨b, o + 1, none⟩ (.int .u64 d1)

theorem cpw_limbs {w : World} {b o : Nat} {d0 d1 d2 d3 d4 a0 a1 a2 a3 a4 : Int} (h : Limbs w b o a0 a1 a2 a3 a4) : Limbs (cpw w b o d0 d1 d2 d3 d4) b o d0 d1 d2 d3 d4 := by
  obtain ⟨h0, h1, h2, h3, h4⟩ := h
  have s0 : (w.cell? ⟨b, o, none⟩).isSome = true := by rw [h0]; rfl
  have s1 : (w.cell? ⟨b, o + 1, none⟩).isSome = true := by rw [h1]; rfl
  have s2 : (w.cell? ⟨b, o + 2, none⟩).isSome = true := by rw [h2]; rfl
  have s3 : (w.cell? ⟨b, o + 3, none⟩).isSome = true := by rw [h3]; rfl
  have s4 : (w.cell? ⟨b, o + 4, none⟩).isSome = true := by rw [h4]; rfl
  unfold cpw
  refine ⟨?_, ?_, ?_, ?_, ?_⟩
  · rw [limbs_past (by omega), limbs_past (by omega), limbs_past (by omega), limbs_past (by omega)]; exact limbs_put s0 rfl
  · exact limbs_put (isSome_set (isSome_set (isSome_set (isSome_set s1)))) rfl
  · rw [limbs_past (by omega)]; exact limbs_put (isSome_set (isSome_set (isSome_set s2))) rfl
  · rw [limbs_past (by omega), limbs_past (by omega)]; exact limbs_put (isSome_set (isSome_set s3)) rfl
  · rw [limbs_past (by omega), limbs_past (by omega), limbs_past (by omega)]; exact limbs_put (isSome_set s4) rfl

theorem cpw_upd (w : World) (b o : Nat) (d0 d1 d2 d3 d4 : Int) : Upd w (cpw w b o d0 d1 d2 d3 d4) b o 5 := by
  unfold cpw
  exact ((((((Upd.refl w b o 5).setCell (by omega) (by omega) _).setCell (by omega) (by omega) _).setCell (by omega) (by omega) _).setCell (by omega) (by omega) _).setCell (by omega) (by omega) _)

theorem carries_mk {w W : World} {b o : Nat} {a0 a1 a2 a3 a4 : Int} {v : Value} (h : Limbs w b o a0 a1 a2 a3 a4)
    (hW : W = (cpw w b o (a0 % 2251799813685248 + 19 * (a4 / 2251799813685248)) (a1 % 2251799813685248 + a0 / 2251799813685248) (a2 % 2251799813685248 + a1 / 2251799813685248)
      (a3 % 2251799813685248 + a2 / 2251799813685248) (a4 % 2251799813685248 + a3 / 2251799813685248)).drew.drew.drew.drew) :
    Carries w b o a0 a1 a2 a3 a4 v (.returned v) W := by
  have hl := cpw_limbs (d0 := a0 % 2251799813685248 + 19 * (a4 / 2251799813685248)) (d1 := a1 % 2251799813685248 + a0 / 2251799813685248) (d2 := a2 % 2251799813685248 + a1 / 2251799813685248)
      (d3 := a3 % 2251799813685248 + a2 / 2251799813685248) (d4 := a4 % 2251799813685248 + a3 / 2251799813685248) h
  have hu := cpw_upd w b o (a0 % 2251799813685248 + 19 * (a4 / 2251799813685248)) (a1 % 2251799813685248 + a0 / 2251799813685248) (a2 % 2251799813685248 + a1 / 2251799813685248)
      (a3 % 2251799813685248 + a2 / 2251799813685248) (a4 % 2251799813685248 + a3 / 2251799813685248)
  generalize cpw w b o (a0 % 2251799813685248 + 19 * (a4 / 2251799813685248)) (a1 % 2251799813685248 + a0 / 2251799813685248) (a2 % 2251799813685248 + a1 / 2251799813685248)
      (a3 % 2251799813685248 + a2 / 2251799813685248) (a4 % 2251799813685248 + a3 / 2251799813685248) = W0 at hW hl hu
  subst hW
  exact ⟨_, _, _, _, _, rfl, ⟨rfl, rfl, rfl, rfl, rfl⟩, hl.drew.drew.drew.drew, hu.drew.drew.drew.drew⟩

set_option maxRecDepth 100000 in
set_option maxHeartbeats 4000000 in
theorem carryPropagate_any (bv ov : Nat) (a0 a1 a2 a3 a4 : Int) (w : World) (hl : Limbs w bv ov a0 a1 a2 a3 a4) (hf : Free w bv ov)
    (la0 : 0 ≤ a0) (ua0 : a0 < 18446744073709551616) (la1 : 0 ≤ a1) (ua1 : a1 < 18446744073709551616) (la2 : 0 ≤ a2) (ua2 : a2 < 18446744073709551616) (la3 : 0 ≤ a3) (ua3 : a3 < 18446744073709551616)  (la4 : 0 ≤ a4) (ua4 : a4 < 18446744073709551616) :
    Calls Tryd.prog 77 #[.pointer (some ⟨bv, ov, none⟩)] w (Carries w bv ov a0 a1 a2 a3 a4 (.pointer (some ⟨bv, ov, none⟩))) := by
  have HL : Hid (Limbs w bv ov a0 a1 a2 a3 a4) := hid hl
  obtain ⟨ca0, ca1, ca2, ca3, ca4⟩ := hl
  obtain ⟨fz0, fz1, fz2, fz3, fz4⟩ := hf
  have A0 := and51 a0 la0 ua0
  have A1 := and51 a1 la1 ua1
  have A2 := and51 a2 la2 ua2
  have A3 := and51 a3 la3 ua3
  have A4 := and51 a4 la4 ua4
  go_enter Tryd.func77, Tryd.ntmps77
  go_wp2_with fail
  go_still_tail 15, (by kernel_rfl)
  still_call (mul19_q (a4 / 2251799813685248) _ (by omega) (by omega))
  repeat still_step
  refine wpStill_nil ?_
  change wpList _ _ _ _ _ w.drew
  go_wp2_with fail
  go_region
  go_wp2_with fail
  go_region
  go_wp2_with fail
  go_region
  go_wp2_with fail
  go_ret
  exact carries_mk HL.out rfl

theorem carry1_tight {a0 a1 a2 a3 a4 d0 d1 d2 d3 d4 : Int} (h : Carry1 a0 a1 a2 a3 a4 d0 d1 d2 d3 d4)
    (la0 : 0 ≤ a0) (ua0 : a0 < 18446744073709551616) (la1 : 0 ≤ a1) (ua1 : a1 < 18446744073709551616) (la2 : 0 ≤ a2) (ua2 : a2 < 18446744073709551616) (la3 : 0 ≤ a3) (ua3 : a3 < 18446744073709551616)  (la4 : 0 ≤ a4) (ua4 : a4 < 18446744073709551616) :
    Tight d0 d1 d2 d3 d4 ∧ Cg (val d0 d1 d2 d3 d4) (val a0 a1 a2 a3 a4) := by
  obtain ⟨rfl, rfl, rfl, rfl, rfl⟩ := h
  refine ⟨⟨⟨by omega, by omega⟩, ⟨by omega, by omega⟩, ⟨by omega, by omega⟩, ⟨by omega, by omega⟩, ⟨by omega, by omega⟩⟩, a4 / 2251799813685248, ?_⟩
  unfold val pI
  omega


set_option maxRecDepth 100000 in
set_option maxHeartbeats 4000000 in
theorem Add_any (bv ov ba oa bb ob : Nat) (A B : Int) (w : World) (ha : E5 w ba oa A) (hb : E5 w bb ob B) (hv : Room w bv ov) (alA : Al bv ov ba oa) (alB : Al bv ov bb ob) :
    Calls Tryd.prog 67 #[.pointer (some ⟨bv, ov, none⟩), .pointer (some ⟨ba, oa, none⟩), .pointer (some ⟨bb, ob, none⟩)] w (Did w bv ov (A + B) (.pointer (some ⟨bv, ov, none⟩))) := by
  have lta := ha.lt
  have ltb := hb.lt
  have ltv := hv.lt
  obtain ⟨⟨a0, a1, a2, a3, a4, ⟨ca0, ca1, ca2, ca3, ca4⟩, ⟨⟨la0, ua0⟩, ⟨la1, ua1⟩, ⟨la2, ua2⟩, ⟨la3, ua3⟩, ⟨la4, ua4⟩⟩, cgA⟩, -⟩ := ha
  obtain ⟨⟨b0, b1, b2, b3, b4, ⟨cb0, cb1, cb2, cb3, cb4⟩, ⟨⟨lb0, ub0⟩, ⟨lb1, ub1⟩, ⟨lb2, ub2⟩, ⟨lb3, ub3⟩, ⟨lb4, ub4⟩⟩, cgB⟩, -⟩ := hb
  obtain ⟨⟨z0, z1, z2, z3, z4, g0, g1, g2, g3, g4⟩, hfree⟩ := hv
  have HF : Hid (Free w bv ov) := hid hfree
  obtain ⟨f0, f1, f2, f3, f4⟩ := hfree
  have Ca0 : Hid (w.cell? ⟨ba, oa, none⟩ = some (.int .u64 a0)) := hid ca0
  have Ca1 : Hid (w.cell? ⟨ba, oa + 1, none⟩ = some (.int .u64 a1)) := hid ca1
  have Ca2 : Hid (w.cell? ⟨ba, oa + 2, none⟩ = some (.int .u64 a2)) := hid ca2
  have Ca3 : Hid (w.cell? ⟨ba, oa + 3, none⟩ = some (.int .u64 a3)) := hid ca3
  have Ca4 : Hid (w.cell? ⟨ba, oa + 4, none⟩ = some (.int .u64 a4)) := hid ca4
  have Cb0 : Hid (w.cell? ⟨bb, ob, none⟩ = some (.int .u64 b0)) := hid cb0
  have Cb1 : Hid (w.cell? ⟨bb, ob + 1, none⟩ = some (.int .u64 b1)) := hid cb1
  have Cb2 : Hid (w.cell? ⟨bb, ob + 2, none⟩ = some (.int .u64 b2)) := hid cb2
  have Cb3 : Hid (w.cell? ⟨bb, ob + 3, none⟩ = some (.int .u64 b3)) := hid cb3
  have Cb4 : Hid (w.cell? ⟨bb, ob + 4, none⟩ = some (.int .u64 b4)) := hid cb4
  have G0 : Hid (w.cell? ⟨bv, ov, none⟩ = some (.int .u64 z0)) := hid g0
  have F0 : Hid (w.frozen? ⟨bv, ov, none⟩ = false) := hid f0
  have G1 : Hid (w.cell? ⟨bv, ov + 1, none⟩ = some (.int .u64 z1)) := hid g1
  have F1 : Hid (w.frozen? ⟨bv, ov + 1, none⟩ = false) := hid f1
  have G2 : Hid (w.cell? ⟨bv, ov + 2, none⟩ = some (.int .u64 z2)) := hid g2
  have F2 : Hid (w.frozen? ⟨bv, ov + 2, none⟩ = false) := hid f2
  have G3 : Hid (w.cell? ⟨bv, ov + 3, none⟩ = some (.int .u64 z3)) := hid g3
  have F3 : Hid (w.frozen? ⟨bv, ov + 3, none⟩ = false) := hid f3
  have G4 : Hid (w.cell? ⟨bv, ov + 4, none⟩ = some (.int .u64 z4)) := hid g4
  have F4 : Hid (w.frozen? ⟨bv, ov + 4, none⟩ = false) := hid f4
  have CA : Hid (Cg (val a0 a1 a2 a3 a4) A) := hid cgA
  have CB : Hid (Cg (val b0 b1 b2 b3 b4) B) := hid cgB
  have ALA : Hid (Al bv ov ba oa) := hid alA
  have ALB : Hid (Al bv ov bb ob) := hid alB
  have LTA : Hid (ba < w.heap.size) := hid lta
  have LTB : Hid (bb < w.heap.size) := hid ltb
  have LTV : Hid (bv < w.heap.size) := hid ltv
  clear ca0 cb0 g0 f0 ca1 cb1 g1 f1 ca2 cb2 g2 f2 ca3 cb3 g3 f3 ca4 cb4 g4 f4 cgA cgB alA alB lta ltb ltv
  have S0 := Acc.start w bv ov (fun j => match j with | 0 => a0 + b0 | 1 => a1 + b1 | 2 => a2 + b2 | 3 => a3 + b3 | _ => a4 + b4)
  generalize hc : ((fun j => match j with | 0 => a0 + b0 | 1 => a1 + b1 | 2 => a2 + b2 | 3 => a3 + b3 | _ => a4 + b4) : Nat → Int) = c at S0
  have k0 : a0 + b0 = c 0 := congrFun hc 0
  have k1 : a1 + b1 = c 1 := congrFun hc 1
  have k2 : a2 + b2 = c 2 := congrFun hc 2
  have k3 : a3 + b3 = c 3 := congrFun hc 3
  have k4 : a4 + b4 = c 4 := congrFun hc 4
  have K0 : Hid (a0 + b0 = c 0) := hid k0
  have K1 : Hid (a1 + b1 = c 1) := hid k1
  have K2 : Hid (a2 + b2 = c 2) := hid k2
  have K3 : Hid (a3 + b3 = c 3) := hid k3
  have K4 : Hid (a4 + b4 = c 4) := hid k4
  clear hc k0 k1 k2 k3 k4
  go_enter Tryd.func67, Tryd.ntmps67
  go_wp2_with fail
  have ra : w.cell? ⟨ba, oa, none⟩ = some (.int .u64 a0) := S0.cell ALA.out LTA.out 0 (by decide) (by decide) Ca0.out
  have rb : w.cell? ⟨bb, ob, none⟩ = some (.int .u64 b0) := S0.cell ALB.out LTB.out 0 (by decide) (by decide) Cb0.out
  have rv : w.cell? ⟨bv, ov, none⟩ = some (.int .u64 z0) := S0.cell (Or.inl ⟨rfl, rfl⟩) LTV.out 0 (by decide) (by decide) G0.out
  have rf : w.frozen? ⟨bv, ov, none⟩ = false := S0.frozen _ F0.out
  go_region
  have S1 : Acc w (w.setCell ⟨bv, ov, none⟩ (.int .u64 (a0 + b0))).drew bv ov 1 c := S0.step (by rw [show ov + 0 = ov from rfl, rv]; rfl) K0.out
  generalize (w.setCell ⟨bv, ov, none⟩ (.int .u64 (a0 + b0))).drew = W0 at S1 ⊢
  clear ra rb rv rf S0
  go_wp2_with fail
  have ra : W0.cell? ⟨ba, oa + 1, none⟩ = some (.int .u64 a1) := S1.cell ALA.out LTA.out 1 (by decide) (by decide) Ca1.out
  have rb : W0.cell? ⟨bb, ob + 1, none⟩ = some (.int .u64 b1) := S1.cell ALB.out LTB.out 1 (by decide) (by decide) Cb1.out
  have rv : W0.cell? ⟨bv, ov + 1, none⟩ = some (.int .u64 z1) := S1.cell (Or.inl ⟨rfl, rfl⟩) LTV.out 1 (by decide) (by decide) G1.out
  have rf : W0.frozen? ⟨bv, ov + 1, none⟩ = false := S1.frozen _ F1.out
  go_region
  have S2 : Acc w (W0.setCell ⟨bv, ov + 1, none⟩ (.int .u64 (a1 + b1))).drew bv ov 2 c := S1.step (by rw [show ov + 1 = ov + 1 from rfl, rv]; rfl) K1.out
  generalize (W0.setCell ⟨bv, ov + 1, none⟩ (.int .u64 (a1 + b1))).drew = W1 at S2 ⊢
  clear ra rb rv rf S1
  go_wp2_with fail
  have ra : W1.cell? ⟨ba, oa + 2, none⟩ = some (.int .u64 a2) := S2.cell ALA.out LTA.out 2 (by decide) (by decide) Ca2.out
  have rb : W1.cell? ⟨bb, ob + 2, none⟩ = some (.int .u64 b2) := S2.cell ALB.out LTB.out 2 (by decide) (by decide) Cb2.out
  have rv : W1.cell? ⟨bv, ov + 2, none⟩ = some (.int .u64 z2) := S2.cell (Or.inl ⟨rfl, rfl⟩) LTV.out 2 (by decide) (by decide) G2.out
  have rf : W1.frozen? ⟨bv, ov + 2, none⟩ = false := S2.frozen _ F2.out
  go_region
  have S3 : Acc w (W1.setCell ⟨bv, ov + 2, none⟩ (.int .u64 (a2 + b2))).drew bv ov 3 c := S2.step (by rw [show ov + 2 = ov + 2 from rfl, rv]; rfl) K2.out
  generalize (W1.setCell ⟨bv, ov + 2, none⟩ (.int .u64 (a2 + b2))).drew = W2 at S3 ⊢
  clear ra rb rv rf S2
  go_wp2_with fail
  have ra : W2.cell? ⟨ba, oa + 3, none⟩ = some (.int .u64 a3) := S3.cell ALA.out LTA.out 3 (by decide) (by decide) Ca3.out
  have rb : W2.cell? ⟨bb, ob + 3, none⟩ = some (.int .u64 b3) := S3.cell ALB.out LTB.out 3 (by decide) (by decide) Cb3.out
  have rv : W2.cell? ⟨bv, ov + 3, none⟩ = some (.int .u64 z3) := S3.cell (Or.inl ⟨rfl, rfl⟩) LTV.out 3 (by decide) (by decide) G3.out
  have rf : W2.frozen? ⟨bv, ov + 3, none⟩ = false := S3.frozen _ F3.out
  go_region
  have S4 : Acc w (W2.setCell ⟨bv, ov + 3, none⟩ (.int .u64 (a3 + b3))).drew bv ov 4 c := S3.step (by rw [show ov + 3 = ov + 3 from rfl, rv]; rfl) K3.out
  generalize (W2.setCell ⟨bv, ov + 3, none⟩ (.int .u64 (a3 + b3))).drew = W3 at S4 ⊢
  clear ra rb rv rf S3
  go_wp2_with fail
  have ra : W3.cell? ⟨ba, oa + 4, none⟩ = some (.int .u64 a4) := S4.cell ALA.out LTA.out 4 (by decide) (by decide) Ca4.out
  have rb : W3.cell? ⟨bb, ob + 4, none⟩ = some (.int .u64 b4) := S4.cell ALB.out LTB.out 4 (by decide) (by decide) Cb4.out
  have rv : W3.cell? ⟨bv, ov + 4, none⟩ = some (.int .u64 z4) := S4.cell (Or.inl ⟨rfl, rfl⟩) LTV.out 4 (by decide) (by decide) G4.out
  have rf : W3.frozen? ⟨bv, ov + 4, none⟩ = false := S4.frozen _ F4.out
  go_region
  have S5 : Acc w (W3.setCell ⟨bv, ov + 4, none⟩ (.int .u64 (a4 + b4))).drew bv ov 5 c := S4.step (by rw [show ov + 4 = ov + 4 from rfl, rv]; rfl) K4.out
  generalize (W3.setCell ⟨bv, ov + 4, none⟩ (.int .u64 (a4 + b4))).drew = W4 at S5 ⊢
  clear ra rb rv rf S4
  go_wp2_with fail
  have HL := S5.limbs
  rw [← K0.out, ← K1.out, ← K2.out, ← K3.out, ← K4.out] at HL
  have HU := S5.upd
  have HFW := HU.free LTV.out HF.out
  clear S5
  refine (carryPropagate_any bv ov (a0 + b0) (a1 + b1) (a2 + b2) (a3 + b3) (a4 + b4) _ HL HFW (by omega) (by omega) (by omega) (by omega) (by omega) (by omega) (by omega) (by omega) (by omega) (by omega)).mono ?_
  rintro e w' ⟨d0, d1, d2, d3, d4, rfl, hcy, hl', hu'⟩
  have Q : Hid (_ ∧ _ ∧ _) := hid ⟨hcy, hl', hu'⟩
  clear hcy hl' hu'
  go_wp2_with fail
  go_ret
  obtain ⟨hcy, hl', hu'⟩ := Q.out
  obtain ⟨ht, hcg⟩ := carry1_tight hcy (by omega) (by omega) (by omega) (by omega) (by omega) (by omega) (by omega) (by omega) (by omega) (by omega)
  exact ⟨rfl, ⟨⟨d0, d1, d2, d3, d4, hl', ht, hcg.trans (Cg.trans (b := val a0 a1 a2 a3 a4 + val b0 b1 b2 b3 b4) ⟨0, by unfold val; omega⟩ (Cg.add CA.out CB.out))⟩, (HU.trans hu').free LTV.out HF.out⟩, HU.trans hu'⟩

set_option maxRecDepth 100000 in
set_option maxHeartbeats 4000000 in
theorem Subtract_any (bv ov ba oa bb ob : Nat) (A B : Int) (w : World) (ha : E5 w ba oa A) (hb : E5 w bb ob B) (hv : Room w bv ov) (alA : Al bv ov ba oa) (alB : Al bv ov bb ob) :
    Calls Tryd.prog 66 #[.pointer (some ⟨bv, ov, none⟩), .pointer (some ⟨ba, oa, none⟩), .pointer (some ⟨bb, ob, none⟩)] w (Did w bv ov (A - B) (.pointer (some ⟨bv, ov, none⟩))) := by
  have lta := ha.lt
  have ltb := hb.lt
  have ltv := hv.lt
  obtain ⟨⟨a0, a1, a2, a3, a4, ⟨ca0, ca1, ca2, ca3, ca4⟩, ⟨⟨la0, ua0⟩, ⟨la1, ua1⟩, ⟨la2, ua2⟩, ⟨la3, ua3⟩, ⟨la4, ua4⟩⟩, cgA⟩, -⟩ := ha
  obtain ⟨⟨b0, b1, b2, b3, b4, ⟨cb0, cb1, cb2, cb3, cb4⟩, ⟨⟨lb0, ub0⟩, ⟨lb1, ub1⟩, ⟨lb2, ub2⟩, ⟨lb3, ub3⟩, ⟨lb4, ub4⟩⟩, cgB⟩, -⟩ := hb
  obtain ⟨⟨z0, z1, z2, z3, z4, g0, g1, g2, g3, g4⟩, hfree⟩ := hv
  have HF : Hid (Free w bv ov) := hid hfree
  obtain ⟨f0, f1, f2, f3, f4⟩ := hfree
  have Ca0 : Hid (w.cell? ⟨ba, oa, none⟩ = some (.int .u64 a0)) := hid ca0
  have Ca1 : Hid (w.cell? ⟨ba, oa + 1, none⟩ = some (.int .u64 a1)) := hid ca1
  have Ca2 : Hid (w.cell? ⟨ba, oa + 2, none⟩ = some (.int .u64 a2)) := hid ca2
  have Ca3 : Hid (w.cell? ⟨ba, oa + 3, none⟩ = some (.int .u64 a3)) := hid ca3
  have Ca4 : Hid (w.cell? ⟨ba, oa + 4, none⟩ = some (.int .u64 a4)) := hid ca4
  have Cb0 : Hid (w.cell? ⟨bb, ob, none⟩ = some (.int .u64 b0)) := hid cb0
  have Cb1 : Hid (w.cell? ⟨bb, ob + 1, none⟩ = some (.int .u64 b1)) := hid cb1
  have Cb2 : Hid (w.cell? ⟨bb, ob + 2, none⟩ = some (.int .u64 b2)) := hid cb2
  have Cb3 : Hid (w.cell? ⟨bb, ob + 3, none⟩ = some (.int .u64 b3)) := hid cb3
  have Cb4 : Hid (w.cell? ⟨bb, ob + 4, none⟩ = some (.int .u64 b4)) := hid cb4
  have G0 : Hid (w.cell? ⟨bv, ov, none⟩ = some (.int .u64 z0)) := hid g0
  have F0 : Hid (w.frozen? ⟨bv, ov, none⟩ = false) := hid f0
  have G1 : Hid (w.cell? ⟨bv, ov + 1, none⟩ = some (.int .u64 z1)) := hid g1
  have F1 : Hid (w.frozen? ⟨bv, ov + 1, none⟩ = false) := hid f1
  have G2 : Hid (w.cell? ⟨bv, ov + 2, none⟩ = some (.int .u64 z2)) := hid g2
  have F2 : Hid (w.frozen? ⟨bv, ov + 2, none⟩ = false) := hid f2
  have G3 : Hid (w.cell? ⟨bv, ov + 3, none⟩ = some (.int .u64 z3)) := hid g3
  have F3 : Hid (w.frozen? ⟨bv, ov + 3, none⟩ = false) := hid f3
  have G4 : Hid (w.cell? ⟨bv, ov + 4, none⟩ = some (.int .u64 z4)) := hid g4
  have F4 : Hid (w.frozen? ⟨bv, ov + 4, none⟩ = false) := hid f4
  have CA : Hid (Cg (val a0 a1 a2 a3 a4) A) := hid cgA
  have CB : Hid (Cg (val b0 b1 b2 b3 b4) B) := hid cgB
  have ALA : Hid (Al bv ov ba oa) := hid alA
  have ALB : Hid (Al bv ov bb ob) := hid alB
  have LTA : Hid (ba < w.heap.size) := hid lta
  have LTB : Hid (bb < w.heap.size) := hid ltb
  have LTV : Hid (bv < w.heap.size) := hid ltv
  clear ca0 cb0 g0 f0 ca1 cb1 g1 f1 ca2 cb2 g2 f2 ca3 cb3 g3 f3 ca4 cb4 g4 f4 cgA cgB alA alB lta ltb ltv
  have S0 := Acc.start w bv ov (fun j => match j with | 0 => a0 + 4503599627370458 - b0 | 1 => a1 + 4503599627370494 - b1 | 2 => a2 + 4503599627370494 - b2 | 3 => a3 + 4503599627370494 - b3 | _ => a4 + 4503599627370494 - b4)
  generalize hc : ((fun j => match j with | 0 => a0 + 4503599627370458 - b0 | 1 => a1 + 4503599627370494 - b1 | 2 => a2 + 4503599627370494 - b2 | 3 => a3 + 4503599627370494 - b3 | _ => a4 + 4503599627370494 - b4) : Nat → Int) = c at S0
  have k0 : a0 + 4503599627370458 - b0 = c 0 := congrFun hc 0
  have k1 : a1 + 4503599627370494 - b1 = c 1 := congrFun hc 1
  have k2 : a2 + 4503599627370494 - b2 = c 2 := congrFun hc 2
  have k3 : a3 + 4503599627370494 - b3 = c 3 := congrFun hc 3
  have k4 : a4 + 4503599627370494 - b4 = c 4 := congrFun hc 4
  have K0 : Hid (a0 + 4503599627370458 - b0 = c 0) := hid k0
  have K1 : Hid (a1 + 4503599627370494 - b1 = c 1) := hid k1
  have K2 : Hid (a2 + 4503599627370494 - b2 = c 2) := hid k2
  have K3 : Hid (a3 + 4503599627370494 - b3 = c 3) := hid k3
  have K4 : Hid (a4 + 4503599627370494 - b4 = c 4) := hid k4
  clear hc k0 k1 k2 k3 k4
  go_enter Tryd.func66, Tryd.ntmps66
  go_wp2_with fail
  have ra : w.cell? ⟨ba, oa, none⟩ = some (.int .u64 a0) := S0.cell ALA.out LTA.out 0 (by decide) (by decide) Ca0.out
  have rb : w.cell? ⟨bb, ob, none⟩ = some (.int .u64 b0) := S0.cell ALB.out LTB.out 0 (by decide) (by decide) Cb0.out
  have rv : w.cell? ⟨bv, ov, none⟩ = some (.int .u64 z0) := S0.cell (Or.inl ⟨rfl, rfl⟩) LTV.out 0 (by decide) (by decide) G0.out
  have rf : w.frozen? ⟨bv, ov, none⟩ = false := S0.frozen _ F0.out
  go_region
  have S1 : Acc w (w.setCell ⟨bv, ov, none⟩ (.int .u64 (a0 + 4503599627370458 - b0))).drew bv ov 1 c := S0.step (by rw [show ov + 0 = ov from rfl, rv]; rfl) K0.out
  generalize (w.setCell ⟨bv, ov, none⟩ (.int .u64 (a0 + 4503599627370458 - b0))).drew = W0 at S1 ⊢
  clear ra rb rv rf S0
  go_wp2_with fail
  have ra : W0.cell? ⟨ba, oa + 1, none⟩ = some (.int .u64 a1) := S1.cell ALA.out LTA.out 1 (by decide) (by decide) Ca1.out
  have rb : W0.cell? ⟨bb, ob + 1, none⟩ = some (.int .u64 b1) := S1.cell ALB.out LTB.out 1 (by decide) (by decide) Cb1.out
  have rv : W0.cell? ⟨bv, ov + 1, none⟩ = some (.int .u64 z1) := S1.cell (Or.inl ⟨rfl, rfl⟩) LTV.out 1 (by decide) (by decide) G1.out
  have rf : W0.frozen? ⟨bv, ov + 1, none⟩ = false := S1.frozen _ F1.out
  go_region
  have S2 : Acc w (W0.setCell ⟨bv, ov + 1, none⟩ (.int .u64 (a1 + 4503599627370494 - b1))).drew bv ov 2 c := S1.step (by rw [show ov + 1 = ov + 1 from rfl, rv]; rfl) K1.out
  generalize (W0.setCell ⟨bv, ov + 1, none⟩ (.int .u64 (a1 + 4503599627370494 - b1))).drew = W1 at S2 ⊢
  clear ra rb rv rf S1
  go_wp2_with fail
  have ra : W1.cell? ⟨ba, oa + 2, none⟩ = some (.int .u64 a2) := S2.cell ALA.out LTA.out 2 (by decide) (by decide) Ca2.out
  have rb : W1.cell? ⟨bb, ob + 2, none⟩ = some (.int .u64 b2) := S2.cell ALB.out LTB.out 2 (by decide) (by decide) Cb2.out
  have rv : W1.cell? ⟨bv, ov + 2, none⟩ = some (.int .u64 z2) := S2.cell (Or.inl ⟨rfl, rfl⟩) LTV.out 2 (by decide) (by decide) G2.out
  have rf : W1.frozen? ⟨bv, ov + 2, none⟩ = false := S2.frozen _ F2.out
  go_region
  have S3 : Acc w (W1.setCell ⟨bv, ov + 2, none⟩ (.int .u64 (a2 + 4503599627370494 - b2))).drew bv ov 3 c := S2.step (by rw [show ov + 2 = ov + 2 from rfl, rv]; rfl) K2.out
  generalize (W1.setCell ⟨bv, ov + 2, none⟩ (.int .u64 (a2 + 4503599627370494 - b2))).drew = W2 at S3 ⊢
  clear ra rb rv rf S2
  go_wp2_with fail
  have ra : W2.cell? ⟨ba, oa + 3, none⟩ = some (.int .u64 a3) := S3.cell ALA.out LTA.out 3 (by decide) (by decide) Ca3.out
  have rb : W2.cell? ⟨bb, ob + 3, none⟩ = some (.int .u64 b3) := S3.cell ALB.out LTB.out 3 (by decide) (by decide) Cb3.out
  have rv : W2.cell? ⟨bv, ov + 3, none⟩ = some (.int .u64 z3) := S3.cell (Or.inl ⟨rfl, rfl⟩) LTV.out 3 (by decide) (by decide) G3.out
  have rf : W2.frozen? ⟨bv, ov + 3, none⟩ = false := S3.frozen _ F3.out
  go_region
  have S4 : Acc w (W2.setCell ⟨bv, ov + 3, none⟩ (.int .u64 (a3 + 4503599627370494 - b3))).drew bv ov 4 c := S3.step (by rw [show ov + 3 = ov + 3 from rfl, rv]; rfl) K3.out
  generalize (W2.setCell ⟨bv, ov + 3, none⟩ (.int .u64 (a3 + 4503599627370494 - b3))).drew = W3 at S4 ⊢
  clear ra rb rv rf S3
  go_wp2_with fail
  have ra : W3.cell? ⟨ba, oa + 4, none⟩ = some (.int .u64 a4) := S4.cell ALA.out LTA.out 4 (by decide) (by decide) Ca4.out
  have rb : W3.cell? ⟨bb, ob + 4, none⟩ = some (.int .u64 b4) := S4.cell ALB.out LTB.out 4 (by decide) (by decide) Cb4.out
  have rv : W3.cell? ⟨bv, ov + 4, none⟩ = some (.int .u64 z4) := S4.cell (Or.inl ⟨rfl, rfl⟩) LTV.out 4 (by decide) (by decide) G4.out
  have rf : W3.frozen? ⟨bv, ov + 4, none⟩ = false := S4.frozen _ F4.out
  go_region
  have S5 : Acc w (W3.setCell ⟨bv, ov + 4, none⟩ (.int .u64 (a4 + 4503599627370494 - b4))).drew bv ov 5 c := S4.step (by rw [show ov + 4 = ov + 4 from rfl, rv]; rfl) K4.out
  generalize (W3.setCell ⟨bv, ov + 4, none⟩ (.int .u64 (a4 + 4503599627370494 - b4))).drew = W4 at S5 ⊢
  clear ra rb rv rf S4
  go_wp2_with fail
  have HL := S5.limbs
  rw [← K0.out, ← K1.out, ← K2.out, ← K3.out, ← K4.out] at HL
  have HU := S5.upd
  have HFW := HU.free LTV.out HF.out
  clear S5
  refine (carryPropagate_any bv ov (a0 + 4503599627370458 - b0) (a1 + 4503599627370494 - b1) (a2 + 4503599627370494 - b2) (a3 + 4503599627370494 - b3) (a4 + 4503599627370494 - b4) _ HL HFW (by omega) (by omega) (by omega) (by omega) (by omega) (by omega) (by omega) (by omega) (by omega) (by omega)).mono ?_
  rintro e w' ⟨d0, d1, d2, d3, d4, rfl, hcy, hl', hu'⟩
  have Q : Hid (_ ∧ _ ∧ _) := hid ⟨hcy, hl', hu'⟩
  clear hcy hl' hu'
  go_wp2_with fail
  go_ret
  obtain ⟨hcy, hl', hu'⟩ := Q.out
  obtain ⟨ht, hcg⟩ := carry1_tight hcy (by omega) (by omega) (by omega) (by omega) (by omega) (by omega) (by omega) (by omega) (by omega) (by omega)
  exact ⟨rfl, ⟨⟨d0, d1, d2, d3, d4, hl', ht, hcg.trans (Cg.trans (b := val a0 a1 a2 a3 a4 - val b0 b1 b2 b3 b4) ⟨-2, by unfold val pI; omega⟩ (Cg.sub CA.out CB.out))⟩, (HU.trans hu').free LTV.out HF.out⟩, HU.trans hu'⟩

end Go.Proofs.YtflmkgecgijncaaDoor
