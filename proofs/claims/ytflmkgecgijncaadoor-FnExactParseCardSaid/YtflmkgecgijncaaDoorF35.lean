/-
  feOne, dOf.
  Point.SetBytes: whether 32 bytes encode a point. Printed by gen_pset.py.
  strconv.Itoa, laid by the shelf's lay-plain.mjs; what a new public key's error needs.
  slices.Clone at bytes.
-/
import Derived.Test.YtflmkgecgijncaaDoorF31
import Derived.Test.YtflmkgecgijncaaDoorM12
import Derived.Test.YtflmkgecgijncaaDoorF23
import Derived.Shelf.Strconv.Itoa3
import Derived.Shelf.LaysM
import Derived.Lib.ItoaLen
import Derived.WalkKit
import Derived.Deep.LoopGhost
import Derived.Lib.Walk
import Derived.Lib.SliceRun

namespace Go.Proofs.YtflmkgecgijncaaDoor
open Go.RowKit Go.Shelf Mth

set_option maxHeartbeats 1000000 in
theorem feOne_any (w : World) (h1 : One5 w) : Calls Tryd.prog 84 #[] w (RetE w 1) := by
  have H : Hid (One5 w) := hid h1
  clear h1
  go_enter Tryd.func84, Tryd.ntmps84
  go_wp2_with fail
  have E : Hid (Room (w.alloc (.cells #[.int .u64 0, .int .u64 0, .int .u64 0, .int .u64 0, .int .u64 0] 80)) w.heap.size 0) := hid (e5_new w).room
  have BL : Hid (Below w.heap.size w (w.alloc (.cells #[.int .u64 0, .int .u64 0, .int .u64 0, .int .u64 0, .int .u64 0] 80))) := hid ((Below.refl _ _).alloc (Nat.le_refl _) _)
  generalize w.alloc (.cells #[.int .u64 0, .int .u64 0, .int .u64 0, .int .u64 0, .int .u64 0] 80) = w1 at E BL ⊢
  refine (One_any w.heap.size 0 _ (H.out.below BL.out) E.out).mono ?_
  rintro e w2 ⟨rfl, hE, hU⟩
  have Q : Hid (E5 w2 w.heap.size 0 1 ∧ Below w.heap.size w w2) := hid ⟨hE, BL.out.trans (hU.below (Nat.le_refl _) BL.out.size)⟩
  clear hE hU
  go_wp2_with fail
  go_ret
  exact ⟨_, rfl, Nat.le_refl _, Q.out⟩

def dL : List Int := [0xa3, 0x78, 0x59, 0x13, 0xca, 0x4d, 0xeb, 0x75, 0xab, 0xd8, 0x41, 0x41, 0x4d, 0x0a, 0x70, 0x00, 0x98, 0xe8, 0x79, 0x77, 0x79, 0x40, 0xc7, 0x8c, 0x73, 0xfe, 0x6f, 0x2b, 0xee, 0x6c, 0x03, 0x52]
/-- The bytes of d. -/
def dB (j : Nat) : Int := dL.getD j 0
theorem dB_byt : Byt dB := by
  intro j
  by_cases h : j < 32
  · have : ∀ j, j < 32 → 0 ≤ dB j ∧ dB j ≤ 255 := by decide +kernel
    exact this j h
  · have : dB j = 0 := by unfold dB; rw [show dL.getD j 0 = 0 from by simp [List.getD, List.getElem?_eq_none (show dL.length ≤ j by show 32 ≤ j; omega)]]
    omega
theorem fp_dB : fp (unum dB) = dC := dC_of (by decide +kernel)

theorem bytes_new (w : World) (f : Nat → Int) (t : TypeId) : Bytes (w.alloc (.cells (bvals f).toArray t)) w.heap.size 0 32 f := by
  intro j hj
  have hh := heap_alloc_new w (.cells (bvals f).toArray t)
  unfold World.cell?
  rw [hh]
  simpa using bvals_get f j hj

set_option maxRecDepth 100000 in
set_option maxHeartbeats 1000000 in
theorem dOf_any (w : World) : Calls Tryd.prog 85 #[] w (RetE w (unum dB)) := by
  go_enter Tryd.func85, Tryd.ntmps85
  go_wp2_with fail
  rw [show (#[.int .u8 163, .int .u8 120, .int .u8 89, .int .u8 19, .int .u8 202, .int .u8 77, .int .u8 235, .int .u8 117, .int .u8 171, .int .u8 216, .int .u8 65, .int .u8 65, .int .u8 77, .int .u8 10, .int .u8 112, .int .u8 0, .int .u8 152, .int .u8 232, .int .u8 121, .int .u8 119, .int .u8 121, .int .u8 64, .int .u8 199, .int .u8 140, .int .u8 115, .int .u8 254, .int .u8 111, .int .u8 43, .int .u8 238, .int .u8 108, .int .u8 3, .int .u8 82] : Array Value) = (bvals dB).toArray by kernel_rfl]
  have E := e5_new w
  have BL := (Below.refl w.heap.size w).alloc (Nat.le_refl _) (.cells #[.int .u64 0, .int .u64 0, .int .u64 0, .int .u64 0, .int .u64 0] 80)
  have SZ : (w.alloc (.cells #[.int .u64 0, .int .u64 0, .int .u64 0, .int .u64 0, .int .u64 0] 80)).heap.size = w.heap.size + 1 := by simp
  generalize w.alloc (.cells #[.int .u64 0, .int .u64 0, .int .u64 0, .int .u64 0, .int .u64 0] 80) = w1 at E BL SZ ⊢
  have E2 : Hid (Room (w1.alloc (.cells (bvals dB).toArray 5)) w.heap.size 0) := hid (E.room.alloc _)
  have B2 : Hid (Bytes (w1.alloc (.cells (bvals dB).toArray 5)) (w.heap.size + 1) 0 32 dB) := hid (by rw [← SZ]; exact bytes_new w1 dB 5)
  have L2 : Hid (Below w.heap.size w (w1.alloc (.cells (bvals dB).toArray 5))) := hid (BL.alloc (by omega) _)
  generalize w1.alloc (.cells (bvals dB).toArray 5) = w2 at E2 B2 L2 ⊢
  clear E BL SZ
  refine (SetBytes_any w.heap.size 0 (w.heap.size + 1) 0 32 dB _ E2.out B2.out dB_byt (by decide) (by omega)).mono ?_
  rintro e w3 ⟨rfl, hE, hU⟩
  have Q : Hid (E5 w3 w.heap.size 0 (unum dB) ∧ Below w.heap.size w w3) := hid ⟨hE, L2.out.trans (hU.below (Nat.le_refl _) L2.out.size)⟩
  clear hE hU
  go_wp2_with fail
  go_ret
  exact ⟨_, rfl, Nat.le_refl _, Q.out⟩
end Go.Proofs.YtflmkgecgijncaaDoor

namespace Go.Proofs.YtflmkgecgijncaaDoor
open Go.RowKit Go.Shelf Mth

theorem Upd.widen {w w' : World} {b o n o' n' : Nat} (h : Upd w w' b o n) (h1 : o' ≤ o) (h2 : o + n ≤ o' + n') : Upd w w' b o' n' :=
  ⟨h.os, h.tape, h.output, h.size, h.block, fun j hj => h.cell j (by omega), h.froz⟩
/-- What is under the root, of a point's second coordinate. -/
def uI (Y : Int) : Int := Y * Y - 1
def vI (Y : Int) : Int := Y * Y * unum dB + 1
theorem fp_zp8 (Z : Int) : fp (zp Z 7237005577332262213973186563042994240829374041602535252466099000494570602493) = fpow (fp Z) e8 := by
  unfold zp e8; exact fp_pow Z _
theorem fp_srI (U V : Int) : fp (srI U V) = sr (fp U) (fp V) := by
  unfold srI sr
  simp only [fp_mul, fp_zp8]
theorem fp_one' : fp 1 = 1 := by decide +kernel
theorem fp_neg (U : Int) : fp (0 - U) = -fp U := by
  rw [fp_sub, show fp 0 = 0 by decide +kernel]
  generalize fp U = a
  grind
theorem wasB_is (Y : Int) : wasB (uI Y) (vI Y) = true ↔ isq ((fp Y * fp Y - 1) * iv ((0 - cA) * iv (cA + 1) * (fp Y * fp Y) + 1)) := by
  rw [← found_is]
  have eu : fp (uI Y) = uOf (fp Y) := by unfold uI uOf; rw [fp_sub, fp_mul, fp_one']
  have ev : fp (vI Y) = vOf (fp Y) := by unfold vI vOf; rw [fp_add, fp_mul, fp_mul, fp_one', fp_dB]
  unfold wasB found
  rw [Bool.or_eq_true, decide_eq_true_iff, decide_eq_true_iff, fp_neg, fp_mul, fp_mul, fp_srI, eu, ev]

/-- A point of 32 bytes at bp, or an error. -/
def RetPt (w : World) (bp : Nat) (Y : Int) (e : Ending) (w' : World) : Prop :=
  (wasB (uI Y) (vI Y) = true ∧ e = .returned (.tuple #[.pointer (some ⟨bp, 0, none⟩), .nilIface]) ∧ Upd w w' bp 0 20) ∨
  (wasB (uI Y) (vI Y) = false ∧ ∃ x, e = .returned (.tuple #[.pointer none, .iface 98 x]) ∧ Below w.heap.size w w')

theorem shr7 (x : Int) (h0 : 0 ≤ x) (h1 : x ≤ 255) : ∃ c : Bool, x / 128 = bi c := by
  by_cases h : x < 128
  · exact ⟨false, by show x / 128 = 0; omega⟩
  · exact ⟨true, by show x / 128 = 1; omega⟩

set_option maxRecDepth 100000 in
set_option maxHeartbeats 8000000 in
theorem PSetBytes_any (bp b c : Nat) (f : Nat → Int) (z w : World) (hg : Glob z) (hz : Below z.heap.size z w) (hl : z.heap.size ≤ bp) (hb : Bytes w b 0 32 f) (hf : Byt f) (hc : 32 ≤ c) (h_p0 : Room w bp 0) (h_p5 : Room w bp 5) (h_p10 : Room w bp 10) (h_p15 : Room w bp 15) :
    Calls Tryd.prog 74 #[.pointer (some ⟨bp, 0, none⟩), .slice (some ⟨b, 0, none⟩) 32 c] w (RetPt w bp (unum f)) := by
  have G : Hid (Glob w) := hid (hg.below hz)
  have GZ : Hid (Glob z ∧ Below z.heap.size z w) := hid ⟨hg, hz⟩
  have lt_b : b < w.heap.size := World.block_lt_of_cell? _ _ (hb 0 (by decide))
  have FB : Hid (Byt f) := hid hf
  have BY : Hid (Bytes w b 0 32 f) := hid hb
  clear hg hb hf hz
  have V_p0 : Hid (Room w bp 0) := hid h_p0
  have lt_p0 := h_p0.lt
  have V_p5 : Hid (Room w bp 5) := hid h_p5
  have lt_p5 := h_p5.lt
  have V_p10 : Hid (Room w bp 10) := hid h_p10
  have lt_p10 := h_p10.lt
  have V_p15 : Hid (Room w bp 15) := hid h_p15
  have lt_p15 := h_p15.lt
  have BL : Hid (Below w.heap.size w w) := hid (Below.refl _ _)
  have SZ : Hid (w.heap.size ≤ w.heap.size) := hid (Nat.le_refl _)
  clear h_p0 h_p5 h_p10 h_p15
  go_enter Tryd.func74, Tryd.ntmps74
  go_wp2_with fail
  replace V_p0 := hid (V_p0.out.alloc (.cells #[.int .u64 0, .int .u64 0, .int .u64 0, .int .u64 0, .int .u64 0] 80))
  replace V_p5 := hid (V_p5.out.alloc (.cells #[.int .u64 0, .int .u64 0, .int .u64 0, .int .u64 0, .int .u64 0] 80))
  replace V_p10 := hid (V_p10.out.alloc (.cells #[.int .u64 0, .int .u64 0, .int .u64 0, .int .u64 0, .int .u64 0] 80))
  replace V_p15 := hid (V_p15.out.alloc (.cells #[.int .u64 0, .int .u64 0, .int .u64 0, .int .u64 0, .int .u64 0] 80))
  replace BY := hid (BY.out.below ((Below.refl _ _).alloc (Nat.le_refl _) (.cells #[.int .u64 0, .int .u64 0, .int .u64 0, .int .u64 0, .int .u64 0] 80)) (by have := SZ.out; omega))
  have E_y : Hid (E5 (w.alloc (.cells #[.int .u64 0, .int .u64 0, .int .u64 0, .int .u64 0, .int .u64 0] 80)) w.heap.size 0 0) := hid (by have := e5_new w; simpa using this)
  replace BL : Hid (Below w.heap.size w (w.alloc (.cells #[.int .u64 0, .int .u64 0, .int .u64 0, .int .u64 0, .int .u64 0] 80))) := hid (BL.out.alloc SZ.out _)
  replace SZ : Hid (w.heap.size ≤ ((w.alloc (.cells #[.int .u64 0, .int .u64 0, .int .u64 0, .int .u64 0, .int .u64 0] 80))).heap.size) := hid (by have := SZ.out; rw [show ((w.alloc (.cells #[.int .u64 0, .int .u64 0, .int .u64 0, .int .u64 0, .int .u64 0] 80))).heap.size = (w).heap.size + 1 by simp]; omega)
  generalize (w.alloc (.cells #[.int .u64 0, .int .u64 0, .int .u64 0, .int .u64 0, .int .u64 0] 80)) = w1 at E_y V_p0 V_p5 V_p10 V_p15 BY BL SZ ⊢
  refine (SetBytes_any w.heap.size 0 b 0 c f _ E_y.out.room BY.out FB.out hc (by omega)).mono ?_
  rintro e w2 ⟨rfl, hE, hU⟩
  replace V_p0 := hid (V_p0.out.keep hU (by unfold Off; omega))
  replace V_p5 := hid (V_p5.out.keep hU (by unfold Off; omega))
  replace V_p10 := hid (V_p10.out.keep hU (by unfold Off; omega))
  replace V_p15 := hid (V_p15.out.keep hU (by unfold Off; omega))
  replace BY := hid (BY.out.keep hU (by omega))
  replace E_y : Hid (E5 w2 w.heap.size 0 (unum f)) := hid hE
  replace BL := hid (BL.out.trans (hU.below (by omega) SZ.out))
  replace SZ := hid (Nat.le_trans SZ.out hU.size)
  clear hE hU
  obtain ⟨Y, hY⟩ : ∃ Y, unum f = Y := ⟨_, rfl⟩
  rw [hY] at E_y
  have HY := hid hY
  clear hY
  go_wp2_with fail
  have c_y2 : w.heap.size < w2.heap.size := E_y.out.lt
  replace E_y := hid (E_y.out.alloc (.cells #[.int .u64 0, .int .u64 0, .int .u64 0, .int .u64 0, .int .u64 0] 80))
  replace V_p0 := hid (V_p0.out.alloc (.cells #[.int .u64 0, .int .u64 0, .int .u64 0, .int .u64 0, .int .u64 0] 80))
  replace V_p5 := hid (V_p5.out.alloc (.cells #[.int .u64 0, .int .u64 0, .int .u64 0, .int .u64 0, .int .u64 0] 80))
  replace V_p10 := hid (V_p10.out.alloc (.cells #[.int .u64 0, .int .u64 0, .int .u64 0, .int .u64 0, .int .u64 0] 80))
  replace V_p15 := hid (V_p15.out.alloc (.cells #[.int .u64 0, .int .u64 0, .int .u64 0, .int .u64 0, .int .u64 0] 80))
  replace BY := hid (BY.out.below ((Below.refl _ _).alloc (Nat.le_refl _) (.cells #[.int .u64 0, .int .u64 0, .int .u64 0, .int .u64 0, .int .u64 0] 80)) (by have := SZ.out; omega))
  have E_y2 : Hid (E5 (w2.alloc (.cells #[.int .u64 0, .int .u64 0, .int .u64 0, .int .u64 0, .int .u64 0] 80)) w2.heap.size 0 0) := hid (by have := e5_new w2; simpa using this)
  replace BL : Hid (Below w.heap.size w (w2.alloc (.cells #[.int .u64 0, .int .u64 0, .int .u64 0, .int .u64 0, .int .u64 0] 80))) := hid (BL.out.alloc SZ.out _)
  replace SZ : Hid (w.heap.size ≤ ((w2.alloc (.cells #[.int .u64 0, .int .u64 0, .int .u64 0, .int .u64 0, .int .u64 0] 80))).heap.size) := hid (by have := SZ.out; rw [show ((w2.alloc (.cells #[.int .u64 0, .int .u64 0, .int .u64 0, .int .u64 0, .int .u64 0] 80))).heap.size = (w2).heap.size + 1 by simp]; omega)
  generalize (w2.alloc (.cells #[.int .u64 0, .int .u64 0, .int .u64 0, .int .u64 0, .int .u64 0] 80)) = w3 at E_y E_y2 V_p0 V_p5 V_p10 V_p15 BY BL SZ ⊢
  refine (Square_any w2.heap.size 0 w.heap.size 0 Y _ E_y.out E_y2.out.room).mono ?_
  rintro e w4 ⟨rfl, hE, hU⟩
  replace E_y := hid (E_y.out.keep hU (by unfold Off; omega))
  replace V_p0 := hid (V_p0.out.keep hU (by unfold Off; omega))
  replace V_p5 := hid (V_p5.out.keep hU (by unfold Off; omega))
  replace V_p10 := hid (V_p10.out.keep hU (by unfold Off; omega))
  replace V_p15 := hid (V_p15.out.keep hU (by unfold Off; omega))
  replace BY := hid (BY.out.keep hU (by omega))
  replace E_y2 : Hid (E5 w4 w2.heap.size 0 (Y * Y)) := hid hE
  replace BL := hid (BL.out.trans (hU.below (by omega) SZ.out))
  replace SZ := hid (Nat.le_trans SZ.out hU.size)
  clear hE hU
  go_wp2_with fail
  have c_u : w2.heap.size < w4.heap.size := E_y2.out.lt
  replace E_y := hid (E_y.out.alloc (.cells #[.int .u64 0, .int .u64 0, .int .u64 0, .int .u64 0, .int .u64 0] 80))
  replace E_y2 := hid (E_y2.out.alloc (.cells #[.int .u64 0, .int .u64 0, .int .u64 0, .int .u64 0, .int .u64 0] 80))
  replace V_p0 := hid (V_p0.out.alloc (.cells #[.int .u64 0, .int .u64 0, .int .u64 0, .int .u64 0, .int .u64 0] 80))
  replace V_p5 := hid (V_p5.out.alloc (.cells #[.int .u64 0, .int .u64 0, .int .u64 0, .int .u64 0, .int .u64 0] 80))
  replace V_p10 := hid (V_p10.out.alloc (.cells #[.int .u64 0, .int .u64 0, .int .u64 0, .int .u64 0, .int .u64 0] 80))
  replace V_p15 := hid (V_p15.out.alloc (.cells #[.int .u64 0, .int .u64 0, .int .u64 0, .int .u64 0, .int .u64 0] 80))
  replace BY := hid (BY.out.below ((Below.refl _ _).alloc (Nat.le_refl _) (.cells #[.int .u64 0, .int .u64 0, .int .u64 0, .int .u64 0, .int .u64 0] 80)) (by have := SZ.out; omega))
  have E_u : Hid (E5 (w4.alloc (.cells #[.int .u64 0, .int .u64 0, .int .u64 0, .int .u64 0, .int .u64 0] 80)) w4.heap.size 0 0) := hid (by have := e5_new w4; simpa using this)
  replace BL : Hid (Below w.heap.size w (w4.alloc (.cells #[.int .u64 0, .int .u64 0, .int .u64 0, .int .u64 0, .int .u64 0] 80))) := hid (BL.out.alloc SZ.out _)
  replace SZ : Hid (w.heap.size ≤ ((w4.alloc (.cells #[.int .u64 0, .int .u64 0, .int .u64 0, .int .u64 0, .int .u64 0] 80))).heap.size) := hid (by have := SZ.out; rw [show ((w4.alloc (.cells #[.int .u64 0, .int .u64 0, .int .u64 0, .int .u64 0, .int .u64 0] 80))).heap.size = (w4).heap.size + 1 by simp]; omega)
  generalize (w4.alloc (.cells #[.int .u64 0, .int .u64 0, .int .u64 0, .int .u64 0, .int .u64 0] 80)) = w5 at E_y E_y2 E_u V_p0 V_p5 V_p10 V_p15 BY BL SZ ⊢
  have c0 := E_u.out.lt
  refine (feOne_any _ (G.out.below BL.out).1).mono ?_
  rintro e w6 ⟨b6, rfl, hb, hE, hB⟩
  have c_one : w4.heap.size < b6 := Nat.lt_of_lt_of_le c0 hb
  clear c0 hb
  replace E_y := hid (E_y.out.below hB E_y.out.lt)
  replace E_y2 := hid (E_y2.out.below hB E_y2.out.lt)
  replace E_u := hid (E_u.out.below hB E_u.out.lt)
  replace V_p0 := hid (V_p0.out.below hB V_p0.out.lt)
  replace V_p5 := hid (V_p5.out.below hB V_p5.out.lt)
  replace V_p10 := hid (V_p10.out.below hB V_p10.out.lt)
  replace V_p15 := hid (V_p15.out.below hB V_p15.out.lt)
  replace BY := hid (BY.out.below hB (by have := SZ.out; omega))
  have E_one : Hid (E5 w6 b6 0 1) := hid hE
  replace BL := hid (BL.out.trans (hB.mono SZ.out))
  replace SZ := hid (Nat.le_trans SZ.out hB.size)
  clear hE hB
  go_wp2_with fail
  refine (Subtract_any w4.heap.size 0 w2.heap.size 0 b6 0 _ _ _ E_y2.out E_one.out E_u.out.room (by unfold Al Off; omega) (by unfold Al Off; omega)).mono ?_
  rintro e w7 ⟨rfl, hE, hU⟩
  replace E_y := hid (E_y.out.keep hU (by unfold Off; omega))
  replace E_y2 := hid (E_y2.out.keep hU (by unfold Off; omega))
  replace E_one := hid (E_one.out.keep hU (by unfold Off; omega))
  replace V_p0 := hid (V_p0.out.keep hU (by unfold Off; omega))
  replace V_p5 := hid (V_p5.out.keep hU (by unfold Off; omega))
  replace V_p10 := hid (V_p10.out.keep hU (by unfold Off; omega))
  replace V_p15 := hid (V_p15.out.keep hU (by unfold Off; omega))
  replace BY := hid (BY.out.keep hU (by omega))
  replace E_u : Hid (E5 w7 w4.heap.size 0 (uI Y)) := hid hE
  replace BL := hid (BL.out.trans (hU.below (by omega) SZ.out))
  replace SZ := hid (Nat.le_trans SZ.out hU.size)
  clear hE hU
  go_wp2_with fail
  clear E_one
  have c_vv : w4.heap.size < w7.heap.size := E_u.out.lt
  replace E_y := hid (E_y.out.alloc (.cells #[.int .u64 0, .int .u64 0, .int .u64 0, .int .u64 0, .int .u64 0] 80))
  replace E_y2 := hid (E_y2.out.alloc (.cells #[.int .u64 0, .int .u64 0, .int .u64 0, .int .u64 0, .int .u64 0] 80))
  replace E_u := hid (E_u.out.alloc (.cells #[.int .u64 0, .int .u64 0, .int .u64 0, .int .u64 0, .int .u64 0] 80))
  replace V_p0 := hid (V_p0.out.alloc (.cells #[.int .u64 0, .int .u64 0, .int .u64 0, .int .u64 0, .int .u64 0] 80))
  replace V_p5 := hid (V_p5.out.alloc (.cells #[.int .u64 0, .int .u64 0, .int .u64 0, .int .u64 0, .int .u64 0] 80))
  replace V_p10 := hid (V_p10.out.alloc (.cells #[.int .u64 0, .int .u64 0, .int .u64 0, .int .u64 0, .int .u64 0] 80))
  replace V_p15 := hid (V_p15.out.alloc (.cells #[.int .u64 0, .int .u64 0, .int .u64 0, .int .u64 0, .int .u64 0] 80))
  replace BY := hid (BY.out.below ((Below.refl _ _).alloc (Nat.le_refl _) (.cells #[.int .u64 0, .int .u64 0, .int .u64 0, .int .u64 0, .int .u64 0] 80)) (by have := SZ.out; omega))
  have E_vv : Hid (E5 (w7.alloc (.cells #[.int .u64 0, .int .u64 0, .int .u64 0, .int .u64 0, .int .u64 0] 80)) w7.heap.size 0 0) := hid (by have := e5_new w7; simpa using this)
  replace BL : Hid (Below w.heap.size w (w7.alloc (.cells #[.int .u64 0, .int .u64 0, .int .u64 0, .int .u64 0, .int .u64 0] 80))) := hid (BL.out.alloc SZ.out _)
  replace SZ : Hid (w.heap.size ≤ ((w7.alloc (.cells #[.int .u64 0, .int .u64 0, .int .u64 0, .int .u64 0, .int .u64 0] 80))).heap.size) := hid (by have := SZ.out; rw [show ((w7.alloc (.cells #[.int .u64 0, .int .u64 0, .int .u64 0, .int .u64 0, .int .u64 0] 80))).heap.size = (w7).heap.size + 1 by simp]; omega)
  generalize (w7.alloc (.cells #[.int .u64 0, .int .u64 0, .int .u64 0, .int .u64 0, .int .u64 0] 80)) = w8 at E_y E_y2 E_u E_vv V_p0 V_p5 V_p10 V_p15 BY BL SZ ⊢
  have c0 := E_vv.out.lt
  refine (dOf_any _).mono ?_
  rintro e w9 ⟨b9, rfl, hb, hE, hB⟩
  have c_d : w7.heap.size < b9 := Nat.lt_of_lt_of_le c0 hb
  clear c0 hb
  replace E_y := hid (E_y.out.below hB E_y.out.lt)
  replace E_y2 := hid (E_y2.out.below hB E_y2.out.lt)
  replace E_u := hid (E_u.out.below hB E_u.out.lt)
  replace E_vv := hid (E_vv.out.below hB E_vv.out.lt)
  replace V_p0 := hid (V_p0.out.below hB V_p0.out.lt)
  replace V_p5 := hid (V_p5.out.below hB V_p5.out.lt)
  replace V_p10 := hid (V_p10.out.below hB V_p10.out.lt)
  replace V_p15 := hid (V_p15.out.below hB V_p15.out.lt)
  replace BY := hid (BY.out.below hB (by have := SZ.out; omega))
  have E_d : Hid (E5 w9 b9 0 (unum dB)) := hid hE
  replace BL := hid (BL.out.trans (hB.mono SZ.out))
  replace SZ := hid (Nat.le_trans SZ.out hB.size)
  clear hE hB
  go_wp2_with fail
  refine (Multiply_any w7.heap.size 0 w2.heap.size 0 b9 0 (Y * Y) (unum dB) _ E_y2.out E_d.out E_vv.out.room).mono ?_
  rintro e w10 ⟨rfl, hE, hU⟩
  replace E_y := hid (E_y.out.keep hU (by unfold Off; omega))
  replace E_y2 := hid (E_y2.out.keep hU (by unfold Off; omega))
  replace E_u := hid (E_u.out.keep hU (by unfold Off; omega))
  replace E_d := hid (E_d.out.keep hU (by unfold Off; omega))
  replace V_p0 := hid (V_p0.out.keep hU (by unfold Off; omega))
  replace V_p5 := hid (V_p5.out.keep hU (by unfold Off; omega))
  replace V_p10 := hid (V_p10.out.keep hU (by unfold Off; omega))
  replace V_p15 := hid (V_p15.out.keep hU (by unfold Off; omega))
  replace BY := hid (BY.out.keep hU (by omega))
  replace E_vv : Hid (E5 w10 w7.heap.size 0 (Y * Y * unum dB)) := hid hE
  replace BL := hid (BL.out.trans (hU.below (by omega) SZ.out))
  replace SZ := hid (Nat.le_trans SZ.out hU.size)
  clear hE hU
  go_wp2_with fail
  clear E_d
  clear E_y2
  have c0 := E_vv.out.lt
  refine (feOne_any _ (G.out.below BL.out).1).mono ?_
  rintro e w11 ⟨b11, rfl, hb, hE, hB⟩
  have c_one2 : w7.heap.size < b11 := Nat.lt_of_lt_of_le c0 hb
  clear c0 hb
  replace E_y := hid (E_y.out.below hB E_y.out.lt)
  replace E_u := hid (E_u.out.below hB E_u.out.lt)
  replace E_vv := hid (E_vv.out.below hB E_vv.out.lt)
  replace V_p0 := hid (V_p0.out.below hB V_p0.out.lt)
  replace V_p5 := hid (V_p5.out.below hB V_p5.out.lt)
  replace V_p10 := hid (V_p10.out.below hB V_p10.out.lt)
  replace V_p15 := hid (V_p15.out.below hB V_p15.out.lt)
  replace BY := hid (BY.out.below hB (by have := SZ.out; omega))
  have E_one2 : Hid (E5 w11 b11 0 1) := hid hE
  replace BL := hid (BL.out.trans (hB.mono SZ.out))
  replace SZ := hid (Nat.le_trans SZ.out hB.size)
  clear hE hB
  go_wp2_with fail
  refine (Add_any w7.heap.size 0 w7.heap.size 0 b11 0 _ _ _ E_vv.out E_one2.out E_vv.out.room (by unfold Al Off; omega) (by unfold Al Off; omega)).mono ?_
  rintro e w12 ⟨rfl, hE, hU⟩
  replace E_y := hid (E_y.out.keep hU (by unfold Off; omega))
  replace E_u := hid (E_u.out.keep hU (by unfold Off; omega))
  replace E_one2 := hid (E_one2.out.keep hU (by unfold Off; omega))
  replace V_p0 := hid (V_p0.out.keep hU (by unfold Off; omega))
  replace V_p5 := hid (V_p5.out.keep hU (by unfold Off; omega))
  replace V_p10 := hid (V_p10.out.keep hU (by unfold Off; omega))
  replace V_p15 := hid (V_p15.out.keep hU (by unfold Off; omega))
  replace BY := hid (BY.out.keep hU (by omega))
  replace E_vv : Hid (E5 w12 w7.heap.size 0 (vI Y)) := hid hE
  replace BL := hid (BL.out.trans (hU.below (by omega) SZ.out))
  replace SZ := hid (Nat.le_trans SZ.out hU.size)
  clear hE hU
  go_wp2_with fail
  clear E_one2
  have c_xx : w7.heap.size < w12.heap.size := E_vv.out.lt
  replace E_y := hid (E_y.out.alloc (.cells #[.int .u64 0, .int .u64 0, .int .u64 0, .int .u64 0, .int .u64 0] 80))
  replace E_u := hid (E_u.out.alloc (.cells #[.int .u64 0, .int .u64 0, .int .u64 0, .int .u64 0, .int .u64 0] 80))
  replace E_vv := hid (E_vv.out.alloc (.cells #[.int .u64 0, .int .u64 0, .int .u64 0, .int .u64 0, .int .u64 0] 80))
  replace V_p0 := hid (V_p0.out.alloc (.cells #[.int .u64 0, .int .u64 0, .int .u64 0, .int .u64 0, .int .u64 0] 80))
  replace V_p5 := hid (V_p5.out.alloc (.cells #[.int .u64 0, .int .u64 0, .int .u64 0, .int .u64 0, .int .u64 0] 80))
  replace V_p10 := hid (V_p10.out.alloc (.cells #[.int .u64 0, .int .u64 0, .int .u64 0, .int .u64 0, .int .u64 0] 80))
  replace V_p15 := hid (V_p15.out.alloc (.cells #[.int .u64 0, .int .u64 0, .int .u64 0, .int .u64 0, .int .u64 0] 80))
  replace BY := hid (BY.out.below ((Below.refl _ _).alloc (Nat.le_refl _) (.cells #[.int .u64 0, .int .u64 0, .int .u64 0, .int .u64 0, .int .u64 0] 80)) (by have := SZ.out; omega))
  have E_xx : Hid (E5 (w12.alloc (.cells #[.int .u64 0, .int .u64 0, .int .u64 0, .int .u64 0, .int .u64 0] 80)) w12.heap.size 0 0) := hid (by have := e5_new w12; simpa using this)
  replace BL : Hid (Below w.heap.size w (w12.alloc (.cells #[.int .u64 0, .int .u64 0, .int .u64 0, .int .u64 0, .int .u64 0] 80))) := hid (BL.out.alloc SZ.out _)
  replace SZ : Hid (w.heap.size ≤ ((w12.alloc (.cells #[.int .u64 0, .int .u64 0, .int .u64 0, .int .u64 0, .int .u64 0] 80))).heap.size) := hid (by have := SZ.out; rw [show ((w12.alloc (.cells #[.int .u64 0, .int .u64 0, .int .u64 0, .int .u64 0, .int .u64 0] 80))).heap.size = (w12).heap.size + 1 by simp]; omega)
  generalize (w12.alloc (.cells #[.int .u64 0, .int .u64 0, .int .u64 0, .int .u64 0, .int .u64 0] 80)) = w13 at E_y E_u E_vv E_xx V_p0 V_p5 V_p10 V_p15 BY BL SZ ⊢
  obtain ⟨q, hq⟩ : ∃ q, wasB (uI Y) (vI Y) = q := ⟨_, rfl⟩
  have HQ := hid hq
  clear hq
  refine (SqrtRatio_any w12.heap.size 0 w4.heap.size 0 w7.heap.size 0 _ _ w _ G.out BL.out SZ.out E_u.out E_vv.out E_xx.out.room).mono ?_
  rintro e w14 ⟨X, rfl, hE, hU⟩
  replace E_y := hid (E_y.out.keep hU (by unfold Off; omega))
  replace E_u := hid (E_u.out.keep hU (by unfold Off; omega))
  replace E_vv := hid (E_vv.out.keep hU (by unfold Off; omega))
  replace V_p0 := hid (V_p0.out.keep hU (by unfold Off; omega))
  replace V_p5 := hid (V_p5.out.keep hU (by unfold Off; omega))
  replace V_p10 := hid (V_p10.out.keep hU (by unfold Off; omega))
  replace V_p15 := hid (V_p15.out.keep hU (by unfold Off; omega))
  replace BY := hid (BY.out.keep hU (by omega))
  replace E_xx : Hid (E5 w14 w12.heap.size 0 _) := hid hE
  replace BL := hid (BL.out.trans (hU.below (by omega) SZ.out))
  replace SZ := hid (Nat.le_trans SZ.out hU.size)
  clear hE hU
  clear E_u
  clear E_vv
  rw [HQ.out]
  cases q
  · go_wp2_with fail
    refine (newErr_any _ _).mono ?_
    rintro e w15 ⟨⟨x, rfl⟩, hB⟩
    replace E_y := hid (E_y.out.below hB E_y.out.lt)
    replace E_xx := hid (E_xx.out.below hB E_xx.out.lt)
    replace V_p0 := hid (V_p0.out.below hB V_p0.out.lt)
    replace V_p5 := hid (V_p5.out.below hB V_p5.out.lt)
    replace V_p10 := hid (V_p10.out.below hB V_p10.out.lt)
    replace V_p15 := hid (V_p15.out.below hB V_p15.out.lt)
    replace BY := hid (BY.out.below hB (by have := SZ.out; omega))
    replace BL := hid (BL.out.trans (hB.mono SZ.out))
    replace SZ := hid (Nat.le_trans SZ.out hB.size)
    clear hB
    go_wp2_with fail
    go_ret2
    exact Or.inr ⟨by rw [HY.out]; exact HQ.out, x, rfl, BL.out⟩
  · go_wp2_with fail
    have c_xn : w12.heap.size < w14.heap.size := E_xx.out.lt
    replace E_y := hid (E_y.out.alloc (.cells #[.int .u64 0, .int .u64 0, .int .u64 0, .int .u64 0, .int .u64 0] 80))
    replace E_xx := hid (E_xx.out.alloc (.cells #[.int .u64 0, .int .u64 0, .int .u64 0, .int .u64 0, .int .u64 0] 80))
    replace V_p0 := hid (V_p0.out.alloc (.cells #[.int .u64 0, .int .u64 0, .int .u64 0, .int .u64 0, .int .u64 0] 80))
    replace V_p5 := hid (V_p5.out.alloc (.cells #[.int .u64 0, .int .u64 0, .int .u64 0, .int .u64 0, .int .u64 0] 80))
    replace V_p10 := hid (V_p10.out.alloc (.cells #[.int .u64 0, .int .u64 0, .int .u64 0, .int .u64 0, .int .u64 0] 80))
    replace V_p15 := hid (V_p15.out.alloc (.cells #[.int .u64 0, .int .u64 0, .int .u64 0, .int .u64 0, .int .u64 0] 80))
    replace BY := hid (BY.out.below ((Below.refl _ _).alloc (Nat.le_refl _) (.cells #[.int .u64 0, .int .u64 0, .int .u64 0, .int .u64 0, .int .u64 0] 80)) (by have := SZ.out; omega))
    have E_xn : Hid (E5 (w14.alloc (.cells #[.int .u64 0, .int .u64 0, .int .u64 0, .int .u64 0, .int .u64 0] 80)) w14.heap.size 0 0) := hid (by have := e5_new w14; simpa using this)
    replace BL : Hid (Below w.heap.size w (w14.alloc (.cells #[.int .u64 0, .int .u64 0, .int .u64 0, .int .u64 0, .int .u64 0] 80))) := hid (BL.out.alloc SZ.out _)
    replace SZ : Hid (w.heap.size ≤ ((w14.alloc (.cells #[.int .u64 0, .int .u64 0, .int .u64 0, .int .u64 0, .int .u64 0] 80))).heap.size) := hid (by have := SZ.out; rw [show ((w14.alloc (.cells #[.int .u64 0, .int .u64 0, .int .u64 0, .int .u64 0, .int .u64 0] 80))).heap.size = (w14).heap.size + 1 by simp]; omega)
    generalize (w14.alloc (.cells #[.int .u64 0, .int .u64 0, .int .u64 0, .int .u64 0, .int .u64 0] 80)) = w15 at E_y E_xx E_xn V_p0 V_p5 V_p10 V_p15 BY BL SZ ⊢
    refine (Negate_any w14.heap.size 0 w12.heap.size 0 _ w _ G.out BL.out (by omega) E_xx.out E_xn.out.room (by unfold Al Off; omega)).mono ?_
    rintro e w16 ⟨rfl, hE, hU⟩
    replace E_y := hid (E_y.out.keep hU (by unfold Off; omega))
    replace E_xx := hid (E_xx.out.keep hU (by unfold Off; omega))
    replace V_p0 := hid (V_p0.out.keep hU (by unfold Off; omega))
    replace V_p5 := hid (V_p5.out.keep hU (by unfold Off; omega))
    replace V_p10 := hid (V_p10.out.keep hU (by unfold Off; omega))
    replace V_p15 := hid (V_p15.out.keep hU (by unfold Off; omega))
    replace BY := hid (BY.out.keep hU (by omega))
    replace E_xn : Hid (E5 w16 w14.heap.size 0 (0 - X)) := hid hE
    replace BL := hid (BL.out.trans (hU.below (by omega) SZ.out))
    replace SZ := hid (Nat.le_trans SZ.out hU.size)
    clear hE hU
    have c31 := BY.out 31 (by decide)
    have r31 := FB.out 31
    rw [Nat.zero_add] at c31
    generalize f 31 = t31 at c31 r31
    obtain ⟨k, hk⟩ := shr7 t31 r31.1 r31.2
    have l := bi_lo k
    have h := bi_hi k
    go_wp2_with fail
    refine (Select_any k w12.heap.size 0 w14.heap.size 0 w12.heap.size 0 _ _ _ E_xn.out E_xx.out E_xx.out.room (by unfold Al Off; omega) (by unfold Al Off; omega)).mono ?_
    rintro e w17 ⟨rfl, hE, hU⟩
    clear c31
    replace E_y := hid (E_y.out.keep hU (by unfold Off; omega))
    replace E_xn := hid (E_xn.out.keep hU (by unfold Off; omega))
    replace V_p0 := hid (V_p0.out.keep hU (by unfold Off; omega))
    replace V_p5 := hid (V_p5.out.keep hU (by unfold Off; omega))
    replace V_p10 := hid (V_p10.out.keep hU (by unfold Off; omega))
    replace V_p15 := hid (V_p15.out.keep hU (by unfold Off; omega))
    replace BY := hid (BY.out.keep hU (by omega))
    replace E_xx : Hid (E5 w17 w12.heap.size 0 (sel k X (0 - X))) := hid hE
    replace BL := hid (BL.out.trans (hU.below (by omega) SZ.out))
    replace SZ := hid (Nat.le_trans SZ.out hU.size)
    clear hE hU
    go_wp2_with fail
    clear E_xn
    have UP : Hid (Upd w w17 bp 0 20) := hid (Upd.of_below bp 0 20 BL.out lt_p0)
    clear BL SZ BY
    refine (Set_any bp 0 w12.heap.size 0 _ _ E_xx.out V_p0.out).mono ?_
    rintro e w18 ⟨rfl, hE, hU⟩
    clear hE
    replace E_y := hid (E_y.out.keep hU (by unfold Off; omega))
    replace E_xx := hid (E_xx.out.keep hU (by unfold Off; omega))
    replace V_p5 := hid (V_p5.out.keep hU (by unfold Off; omega))
    replace V_p10 := hid (V_p10.out.keep hU (by unfold Off; omega))
    replace V_p15 := hid (V_p15.out.keep hU (by unfold Off; omega))
    replace UP := hid (UP.out.trans (hU.widen (by omega) (by omega)))
    clear hU
    go_wp2_with fail
    refine (Set_any bp 5 w.heap.size 0 _ _ E_y.out V_p5.out).mono ?_
    rintro e w19 ⟨rfl, hE, hU⟩
    clear hE
    replace E_y := hid (E_y.out.keep hU (by unfold Off; omega))
    replace E_xx := hid (E_xx.out.keep hU (by unfold Off; omega))
    replace V_p10 := hid (V_p10.out.keep hU (by unfold Off; omega))
    replace V_p15 := hid (V_p15.out.keep hU (by unfold Off; omega))
    replace UP := hid (UP.out.trans (hU.widen (by omega) (by omega)))
    clear hU
    go_wp2_with fail
    refine (One_any bp 10 _ (GZ.out.1.below (GZ.out.2.trans (UP.out.below hl GZ.out.2.size))).1 V_p10.out).mono ?_
    rintro e w20 ⟨rfl, hE, hU⟩
    clear hE
    replace E_y := hid (E_y.out.keep hU (by unfold Off; omega))
    replace E_xx := hid (E_xx.out.keep hU (by unfold Off; omega))
    replace V_p15 := hid (V_p15.out.keep hU (by unfold Off; omega))
    replace UP := hid (UP.out.trans (hU.widen (by omega) (by omega)))
    clear hU
    go_wp2_with fail
    refine (Multiply_any bp 15 w12.heap.size 0 w.heap.size 0 _ _ _ E_xx.out E_y.out V_p15.out).mono ?_
    rintro e w21 ⟨rfl, hE, hU⟩
    clear hE
    replace E_y := hid (E_y.out.keep hU (by unfold Off; omega))
    replace E_xx := hid (E_xx.out.keep hU (by unfold Off; omega))
    replace UP := hid (UP.out.trans (hU.widen (by omega) (by omega)))
    clear hU
    go_wp2_with fail
    go_ret2
    exact Or.inl ⟨by rw [HY.out]; exact HQ.out, rfl, UP.out⟩

end Go.Proofs.YtflmkgecgijncaaDoor

namespace Go.Proofs.YtflmkgecgijncaaDoor
open Go.RowKit Go.Shelf Mth

def laysM171_ren : Go.Shelf.Ren := ⟨fun | 171 => 73 | 243 => 83 | 246 => 100 | 283 => 105 | 284 => 106 | 285 => 107 | 286 => 108 | 129 => 112 | 317 => 111 | 318 => 113 | 319 => 114 | 320 => 115 | 337 => 116 | 338 => 117 | n => n, fun | 3 => 3 | 9 => 9 | 2 => 2 | 4 => 4 | 171 => 129 | 0 => 0 | 53 => 41 | 37 => 36 | 5 => 5 | 173 => 131 | 212 => 137 | 51 => 97 | 20 => 20 | 213 => 138 | 46 => 93 | 232 => 22 | 233 => 142 | n => n, fun | 17 => 3 | 18 => 4 | 19 => 5 | n => n⟩
theorem laysM171 : Go.Proofs.LaysM.n171 Tryd.prog laysM171_ren := {
  mixed := by kernel_rfl
  f129 := Tryd.func112.trans (congrArg some (by kernel_rfl))
  f171 := Tryd.func73.trans (congrArg some (by kernel_rfl))
  f243 := Tryd.func83.trans (congrArg some (by kernel_rfl))
  f246 := Tryd.func100.trans (congrArg some (by kernel_rfl))
  f283 := Tryd.func105.trans (congrArg some (by kernel_rfl))
  f284 := Tryd.func106.trans (congrArg some (by kernel_rfl))
  f285 := Tryd.func107.trans (congrArg some (by kernel_rfl))
  f286 := Tryd.func108.trans (congrArg some (by kernel_rfl))
  f317 := Tryd.func111.trans (congrArg some (by kernel_rfl))
  f318 := Tryd.func113.trans (congrArg some (by kernel_rfl))
  f319 := Tryd.func114.trans (congrArg some (by kernel_rfl))
  f320 := Tryd.func115.trans (congrArg some (by kernel_rfl))
  f337 := Tryd.func116.trans (congrArg some (by kernel_rfl))
  f338 := Tryd.func117.trans (congrArg some (by kernel_rfl))
  t0 := Tryd.underlying0
  a0 := Tryd.isAgg0
  z0 := Tryd.sizeOf0
  v0 := Tryd.zeroValue0
  t2 := Tryd.underlying2
  a2 := Tryd.isAgg2
  z2 := Tryd.sizeOf2
  v2 := Tryd.zeroValue2
  t3 := Tryd.underlying3
  a3 := Tryd.isAgg3
  z3 := Tryd.sizeOf3
  v3 := Tryd.zeroValue3
  t4 := Tryd.underlying4
  a4 := Tryd.isAgg4
  z4 := Tryd.sizeOf4
  v4 := Tryd.zeroValue4
  t5 := Tryd.underlying5
  a5 := Tryd.isAgg5
  z5 := Tryd.sizeOf5
  v5 := Tryd.zeroValue5
  t9 := Tryd.underlying9
  a9 := Tryd.isAgg9
  z9 := Tryd.sizeOf9
  v9 := Tryd.zeroValue9
  t20 := Tryd.underlying20
  a20 := Tryd.isAgg20
  z20 := Tryd.sizeOf20
  v20 := Tryd.zeroValue20
  t37 := Tryd.underlying36
  a37 := Tryd.isAgg36
  z37 := Tryd.sizeOf36
  v37 := Tryd.zeroValue36
  t46 := Tryd.underlying93
  a46 := Tryd.isAgg93
  z46 := Tryd.sizeOf93
  v46 := Tryd.zeroValue93
  t51 := Tryd.underlying97
  a51 := Tryd.isAgg97
  z51 := Tryd.sizeOf97
  v51 := Tryd.zeroValue97
  t53 := Tryd.underlying41
  a53 := Tryd.isAgg41
  z53 := Tryd.sizeOf41
  v53 := Tryd.zeroValue41
  t171 := Tryd.underlying129
  a171 := Tryd.isAgg129
  z171 := Tryd.sizeOf129
  v171 := Tryd.zeroValue129
  t173 := Tryd.underlying131
  a173 := Tryd.isAgg131
  z173 := Tryd.sizeOf131
  v173 := Tryd.zeroValue131
  t212 := Tryd.underlying137
  a212 := Tryd.isAgg137
  z212 := Tryd.sizeOf137
  v212 := Tryd.zeroValue137
  t213 := Tryd.underlying138
  a213 := Tryd.isAgg138
  z213 := Tryd.sizeOf138
  t232 := Tryd.underlying22
  a232 := Tryd.isAgg22
  z232 := Tryd.sizeOf22
  v232 := Tryd.zeroValue22
  t233 := Tryd.underlying142
  a233 := Tryd.isAgg142
  z233 := Tryd.sizeOf142
  v233 := Tryd.zeroValue142
  g17 := by kernel_rfl
  g18 := by kernel_rfl
  g19 := by kernel_rfl
  i0 := by kernel_rfl
  i2 := by kernel_rfl
  i3 := by kernel_rfl
  i4 := by kernel_rfl
  i5 := by kernel_rfl
  i9 := by kernel_rfl
  i20 := by kernel_rfl
  i37 := by kernel_rfl
  i46 := by kernel_rfl
  i51 := by kernel_rfl
  i53 := by kernel_rfl
  i171 := by kernel_rfl
  i173 := by kernel_rfl
  i212 := by kernel_rfl
  i232 := by kernel_rfl
  i233 := by kernel_rfl
  m17 := by kernel_rfl
  m18 := by kernel_rfl
  m19 := by kernel_rfl }

/-- The library's table of powers of ten. -/
def Tab (w : World) : Prop := Lib.TabIs Tryd.prog w "internal/strconv.uint64pow10" .u64 Lib.pow10Tab
theorem gTab : ∃ g, Tryd.prog.globalNamed "internal/strconv.uint64pow10" = some g := Option.isSome_iff_exists.1 (by kernel_rfl)
theorem Tab.below {w w' : World} (h : Tab w) (hb : Below w.heap.size w w') : Tab w' := by
  obtain ⟨g, hgn⟩ := gTab
  unfold Tab Lib.TabIs World.var? at h ⊢
  rw [hgn] at h ⊢
  simp only [Option.bind_some] at h ⊢
  have hlt : g < w.heap.size := by
    rcases Nat.lt_or_ge g w.heap.size with h' | h'
    · exact h'
    · rw [Array.getElem?_eq_none h'] at h; cases h
  rw [hb.block g hlt]
  exact h
theorem Itoa_any (n : Nat) (h : n ≤ 9223372036854775807) (w : World) (ht : Tab w) :
    Calls Tryd.prog 73 #[.int .i64 n] w fun e w' => (∃ s : ByteArray, e = .returned (.string s) ∧ s.size ≤ 21) ∧ Below w.heap.size w w' := by
  refine (Any.strconv_Itoa laysM171 n (by omega) (by omega) w ht).mono ?_
  rintro e w' ⟨rfl, k, os, rfl⟩
  refine ⟨⟨_, rfl, ?_⟩, ?_⟩
  · have := Lib.itoa_length_le n (by omega) (by omega)
    simpa [ByteArray.size] using this
  · refine ⟨rfl, rfl, rfl, by simp [Sort.grow], fun i hi => ?_⟩
    show ((w.drewN k).heap ++ os)[i]? = _
    rw [Array.getElem?_append_left (by show i < w.heap.size; omega)]
    rfl
end Go.Proofs.YtflmkgecgijncaaDoor

namespace Go.Proofs.YtflmkgecgijncaaDoor
open Go.RowKit Go.Shelf Mth

/-- n bytes as cells. -/
def vN (n : Nat) (f : Nat → Int) : List Value := (List.range n).map (fun j => .int .u8 (f j))
theorem vN_len (n : Nat) (f : Nat → Int) : (vN n f).length = n := by simp [vN]
theorem vN_get {n : Nat} {f : Nat → Int} {j : Nat} (hj : j < n) : (vN n f)[j]? = some (.int .u8 (f j)) := by
  unfold vN
  rw [List.getElem?_map, List.getElem?_range hj]; rfl
theorem vN_at {n : Nat} {f : Nat → Int} {j : Nat} {u : Value} (h : (vN n f)[j]? = some u) : j < n ∧ u = .int .u8 (f j) := by
  have hj : j < n := by have := (List.getElem?_eq_some_iff.1 h).1; rwa [vN_len] at this
  rw [vN_get hj] at h
  exact ⟨hj, (Option.some.inj h).symm⟩

/-- Bytes that came in: there are none, or they lie in cells. -/
def SB (w : World) (a : Addr) (n : Nat) (f : Nat → Int) : Prop := n = 0 ∨ (a.spot = none ∧ Bytes w a.block a.off n f)
theorem SB.cell {w : World} {a : Addr} {n : Nat} {f : Nat → Int} (h : SB w a n f) {j : Nat} (hj : j < n) : w.cell? (a.add j) = some (.int .u8 (f j)) := by
  rcases h with h | ⟨h1, h2⟩
  · omega
  · obtain ⟨b, o, s⟩ := a
    obtain rfl : s = none := h1
    rw [Addr.add_lit]; exact h2 j hj
theorem SB.below {w w' : World} {a : Addr} {n : Nat} {f : Nat → Int} (h : SB w a n f) (hb : Below w.heap.size w w') : SB w' a n f := by
  by_cases h0 : n = 0
  · exact Or.inl h0
  · rcases h with h | ⟨h1, h2⟩
    · exact Or.inl h
    · exact Or.inr ⟨h1, h2.below hb (World.block_lt_of_cell? w ⟨a.block, a.off + 0, none⟩ (h2 0 (by omega)))⟩

def RetC (w : World) (n : Nat) (f : Nat → Int) (e : Ending) (w' : World) : Prop :=
  ∃ b c : Nat, e = .returned (.slice (some ⟨b, 0, none⟩) n c) ∧ n ≤ c ∧ w.heap.size ≤ b ∧ Bytes w' b 0 n f ∧ Below w.heap.size w w'

theorem eql36 : ∀ (w : World) (a : Option Addr) (n c n' c' : Nat), (binOp .eql 36 (.slice a n c) (.slice none n' c')).run Tryd.prog w = .ok (.bool a.isNone) w := fun w a n c n' c' => Lib.run_eql_slice_nil w _ _ a n c n' c' Tryd.underlying36
theorem i5 : (Tryd.prog.info? 5).map (fun i => (i.zero, i.size, i.bytes)) = some (some (Value.int IntKind.u8 0), 1, 1) := by kernel_rfl

set_option maxHeartbeats 2000000 in
set_option maxRecDepth 100000 in
theorem Clone_any (a : Addr) (n c : Nat) (f : Nat → Int) (w : World) (hn : n ≤ 140737488355328) (h : SB w a n f) :
    Calls Tryd.prog 46 #[.slice (some a) n c] w (RetC w n f) := by
  obtain ⟨i0, hi, hz0, hz1, hz2⟩ := info_parts i5
  have q36 := eql36
  have u36 : ∀ w, Sem.run Tryd.prog (underlying 36) w = .ok (TypeDesc.slice 5) w := run_underlying Tryd.underlying36
  have A : Hid (SB w a n f) := hid h
  clear h
  go_enter Tryd.func46, Tryd.ntmps46
  go_wp2_with (at_builtin; refine wpList_append_own _ rfl _ _ 36 rfl w.heap.size 5 i0 (.int .u8 0) 1 1 Tryd.underlying36 hi hz0 hz1 hz2 rfl (by decide) _ _ _ rfl (World.ownsRow_made w #[] 0 (Nat.le_refl _) (Nat.zero_le _) rfl) a n c (vN n f) rfl ?qc1 ?qc2 ?qc3 ?qc4 ?qc5 ?qc6 ?_)
  case qc1 => rw [vN_len]; omega
  case qc2 =>
    intro j u hj
    obtain ⟨hk, rfl⟩ := vN_at hj
    refine Lib.cell?_alloc_some _ ?_
    exact A.out.cell hk
  case qc3 =>
    intro u hu
    unfold vN at hu
    obtain ⟨x, _, rfl⟩ := List.mem_map.1 hu; rfl
  case qc4 => unfold maxLen; omega
  case qc5 => omega
  case qc6 => simp
  intro v' w1 hown hgrow hnil
  go_wp2
  go_ret
  have hb : Below w.heap.size w w1 := ((Below.refl _ w).alloc (Nat.le_refl _) _).grown hgrow (by simp) (by intro k hk; simp [Value.ownBlock] at hk; omega)
  obtain ⟨_, h0 | ⟨g, cap, cur, rfl, hg, hc, hl, _, hs, ht⟩⟩ := hown
  · obtain ⟨rfl, _⟩ := h0
    exact absurd rfl hnil
  · refine ⟨g, cap, ?_, by omega, hg, ?_, hb⟩
    · simp
    · intro j hj
      unfold World.cell?
      rw [hc]
      have e := congrArg (fun l : List Value => l[j]?) ht
      simp only [vN_get hj] at e
      rw [List.getElem?_take] at e
      simp only [Nat.mul_one] at e
      rw [if_pos (by omega)] at e
      simpa using e

theorem Clone_nil (n c : Nat) (w : World) : Calls Tryd.prog 46 #[.slice none n c] w fun e w' => e = .returned (.slice none 0 0) ∧ w' = w := by
  have q36 := eql36
  go_enter Tryd.func46, Tryd.ntmps46
  go_wp2
  go_ret
  exact ⟨rfl, rfl⟩
end Go.Proofs.YtflmkgecgijncaaDoor
