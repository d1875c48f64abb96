/-
  compareBytes, Equal, IsNegative, Negate, Absolute.
  Absolute, SqrtRatio. Printed by gen_sqrt.py.
-/
import Derived.Test.YtflmkgecgijncaaDoorF29
import Derived.Test.YtflmkgecgijncaaDoorF22

namespace Go.Proofs.YtflmkgecgijncaaDoor
open Go.RowKit Go.Shelf Mth

theorem same_iff (f g : Nat → Int) : same f g = true ↔ ∀ j, j < 32 → f j = g j := by
  unfold same
  rw [List.all_eq_true]
  constructor
  · intro h j hj; simpa using h j (List.mem_range.2 hj)
  · intro h i hi; simp [h i (List.mem_range.1 hi)]
theorem same_not {f g : Nat → Int} {j : Nat} (hj : j < 32) (h : f j ≠ g j) : bi (same f g) = 0 := by
  have : same f g = false := by
    cases e : same f g
    · rfl
    · exact absurd ((same_iff f g).1 e j hj) h
  rw [this]; rfl
theorem same_yes {f g : Nat → Int} (h : ∀ j, j < 32 → f j = g j) : bi (same f g) = 1 := by
  rw [(same_iff f g).2 h]; rfl

theorem below_drewN (w : World) (n : Nat) : Below w.heap.size w (w.drewN n) := have h := Below.refl w.heap.size w; ⟨h.os, h.tape, h.output, h.size, h.block⟩

set_option maxHeartbeats 1000000 in
/-- compareBytes tells whether two rows of 32 bytes are one. -/
theorem compare_any (b b' c c' : Nat) (f g : Nat → Int) (w : World) (hf : Bytes w b 0 32 f) (hg : Bytes w b' 0 32 g) :
    Calls Tryd.prog 109 #[.slice (some ⟨b, 0, none⟩) 32 c, .slice (some ⟨b', 0, none⟩) 32 c'] w fun e w' => e = .returned (.int .i64 (bi (same f g))) ∧ Below w.heap.size w w' := by
  have A : Hid (Bytes w b 0 32 f ∧ Bytes w b' 0 32 g) := hid ⟨hf, hg⟩
  clear hf hg
  go_enter Tryd.func109, Tryd.ntmps109
  go_wp2_with fail
  go_loopw [13] (fun i wr => ∃ (k n : Nat), k ≤ 32 ∧ (∀ j, j < k → f j = g j) ∧ i = .int .i64 k ∧ wr = w.drewN n) (fun i _ => 32 - (intOf i).toNat)
  case atStart => exact ⟨0, 0, by omega, by omega, rfl, rfl⟩
  case round =>
    obtain ⟨k, n, hk, hq, rfl, rfl⟩ := hrel
    have Q : Hid (∀ j, j < k → f j = g j) := hid hq
    clear hq
    by_cases hlt : k < 32
    · have hc1 := A.out.1 k hlt
      have hc2 := A.out.2 k hlt
      obtain ⟨x, hx⟩ : ∃ z, f k = z := ⟨_, rfl⟩
      obtain ⟨y, hy⟩ : ∃ z, g k = z := ⟨_, rfl⟩
      rw [hx, Nat.zero_add] at hc1
      rw [hy, Nat.zero_add] at hc2
      have E : Hid (f k = x ∧ g k = y) := hid ⟨hx, hy⟩
      clear hx hy
      by_cases he : x = y
      · subst he
        go_wp2_with fail
        go_region
        go_wp2_with fail
        go_roundw
        case rel =>
          refine ⟨k + 1, n + 1, by omega, ?_, by go_num, rfl⟩
          intro j hj
          by_cases hjk : j < k
          · exact Q.out j hjk
          · obtain rfl : j = k := by omega
            rw [E.out.1, E.out.2]
        case measure => simp [intOf]; omega
      · go_wp2_with fail
        go_region
        go_wp2_with fail
        go_ret
        refine ⟨?_, (below_drewN _ _).drew⟩
        rw [same_not hlt (by rw [E.out.1, E.out.2]; exact he)]; rfl
    · obtain rfl : k = 32 := by omega
      go_wp2_with fail
      go_ret
      refine ⟨?_, below_drewN _ _⟩
      rw [same_yes Q.out]; rfl

theorem leN_congr {f g : Nat → Int} : ∀ n k, (∀ j, j < n + k → f j = g j) → leN f n k = leN g n k
  | 0, _, _ => rfl
  | n + 1, k, h => by
    show f k + 256 * leN f n (k + 1) = g k + 256 * leN g n (k + 1)
    rw [h k (by omega), leN_congr n (k + 1) (fun j hj => h j (by omega))]
theorem same_bytes (A B : Int) : same (byteOf (A % pI)) (byteOf (B % pI)) = decide (fp A = fp B) := by
  have pp : pI = 57896044618658097711785492504343953926634992332820282019728792003956564819949 := rfl
  have la : 0 ≤ A % pI := by rw [pp]; omega
  have ua : A % pI < 2 ^ 256 := by rw [pp]; omega
  have lb : 0 ≤ B % pI := by rw [pp]; omega
  have ub : B % pI < 2 ^ 256 := by rw [pp]; omega
  apply Bool.eq_iff_iff.2
  rw [same_iff, decide_eq_true_iff]
  constructor
  · intro h
    have e := leN_congr (f := byteOf (A % pI)) (g := byteOf (B % pI)) 32 0 (fun j hj => h j (by omega))
    rw [byteOf_num la ua, byteOf_num lb ub] at e
    exact fp_eq e
  · intro h j _
    rw [show A % pI = B % pI from fp_inj h]

set_option maxHeartbeats 1000000 in
theorem Equal_any (ba oa bb ob : Nat) (A B : Int) (w : World) (ha : E5 w ba oa A) (hb : E5 w bb ob B) :
    Calls Tryd.prog 102 #[.pointer (some ⟨ba, oa, none⟩), .pointer (some ⟨bb, ob, none⟩)] w fun e w' => e = .returned (.int .i64 (bi (decide (fp A = fp B)))) ∧ Below w.heap.size w w' := by
  have H : Hid (E5 w ba oa A ∧ E5 w bb ob B) := hid ⟨ha, hb⟩
  clear ha hb
  go_enter Tryd.func102, Tryd.ntmps102
  go_wp2_with fail
  refine (Bytes_any bb ob B _ H.out.2).mono ?_
  rintro e w1 ⟨b1, rfl, l1, h1, y1⟩
  have G : Hid (Below w.heap.size w w1 ∧ Bytes w1 b1 0 32 (byteOf (B % pI)) ∧ w.heap.size ≤ b1) := hid ⟨h1, y1, l1⟩
  have lb1 : b1 < w1.heap.size := World.block_lt_of_cell? _ _ (y1 0 (by decide))
  clear h1 y1 l1
  go_wp2_with fail
  refine (Bytes_any ba oa A _ (H.out.1.below G.out.1 H.out.1.lt)).mono ?_
  rintro e w2 ⟨b2, rfl, l2, h2, y2⟩
  have G2 : Hid (Below w1.heap.size w1 w2 ∧ Bytes w2 b2 0 32 (byteOf (A % pI)) ∧ Bytes w2 b1 0 32 (byteOf (B % pI))) := hid ⟨h2, y2, G.out.2.1.below h2 lb1⟩
  clear h2 y2 l2
  go_wp2_with fail
  refine (compare_any b1 b2 32 32 _ _ _ G2.out.2.2 G2.out.2.1).mono ?_
  rintro e w3 ⟨rfl, h3⟩
  have G3 : Hid (Below w2.heap.size w2 w3) := hid h3
  clear h3
  go_wp2_with fail
  go_ret
  refine ⟨?_, (G.out.1.trans (G2.out.1.mono G.out.1.size)).trans (G3.out.mono (Nat.le_trans G.out.1.size G2.out.1.size))⟩
  rw [same_bytes, show decide (fp B = fp A) = decide (fp A = fp B) by by_cases h : fp A = fp B <;> simp [h, eq_comm]]
  rfl

theorem and_one (x : Int) (h0 : 0 ≤ x) (h1 : x ≤ 255) : ∃ c : Bool, bits .and .u8 x 1 = bi c := by
  have := bits_mask .u8 8 (by decide) wraps_u8 1 (by decide) x h0 (by omega)
  rw [show (2 ^ 1 - 1 : Int) = 1 by decide] at this
  rw [this]
  by_cases h : x % 2 = 0
  · exact ⟨false, h⟩
  · exact ⟨true, by show x % 2 = 1; omega⟩

set_option maxHeartbeats 1000000 in
theorem IsNegative_any (bv ov : Nat) (V : Int) (w : World) (hv : E5 w bv ov V) :
    Calls Tryd.prog 110 #[.pointer (some ⟨bv, ov, none⟩)] w fun e w' => (∃ c, e = .returned (.int .i64 (bi c))) ∧ Below w.heap.size w w' := by
  have H : Hid (E5 w bv ov V) := hid hv
  clear hv
  go_enter Tryd.func110, Tryd.ntmps110
  go_wp2_with fail
  refine (Bytes_any bv ov V _ H.out).mono ?_
  rintro e w1 ⟨b1, rfl, l1, h1, y1⟩
  have G : Hid (Below w.heap.size w w1) := hid h1
  have c0 := y1 0 (by decide)
  rw [Nat.zero_add] at c0
  have r0 := byteOf_byt (V % pI) 0
  clear h1 y1
  generalize byteOf (V % pI) 0 = x at *
  obtain ⟨c, hc⟩ := and_one x r0.1 r0.2
  have l := bi_lo c
  have h := bi_hi c
  go_wp2_with fail
  go_ret
  refine ⟨⟨c, ?_⟩, G.out⟩
  rfl

/-- The field's variables: one, nought, a root of -1 (here: whatever it is). -/
def Glob (w : World) : Prop := One5 w ∧ (∃ pb po : Nat, w.cell? ⟨2, 0, none⟩ = some (.pointer (some ⟨pb, po, none⟩)) ∧ R5 w pb po 0) ∧ (∃ (pb po : Nat) (X : Int), w.cell? ⟨1, 0, none⟩ = some (.pointer (some ⟨pb, po, none⟩)) ∧ R5 w pb po X)
theorem Glob.below {w w' : World} (h : Glob w) (hb : Below w.heap.size w w') : Glob w' := by
  obtain ⟨h1, ⟨pb, po, p, r⟩, ⟨qb, qo, X, q, s⟩⟩ := h
  exact ⟨h1.below hb, ⟨pb, po, (hb.cell (World.block_lt_of_cell? _ _ p)).trans p, r.below hb r.lt⟩, ⟨qb, qo, X, (hb.cell (World.block_lt_of_cell? _ _ q)).trans q, s.below hb s.lt⟩⟩

set_option maxHeartbeats 1000000 in
theorem Negate_any (bv ov ba oa : Nat) (A : Int) (w0 w : World) (hg : Glob w0) (hb : Below w0.heap.size w0 w) (hn : w0.heap.size ≤ bv) (ha : E5 w ba oa A) (hv : Room w bv ov) (al : Al bv ov ba oa) :
    Calls Tryd.prog 87 #[.pointer (some ⟨bv, ov, none⟩), .pointer (some ⟨ba, oa, none⟩)] w (Did w bv ov (0 - A) (.pointer (some ⟨bv, ov, none⟩))) := by
  obtain ⟨-, ⟨pb, po, p0, r0⟩, -⟩ := hg
  have lt := r0.lt
  have p : w.cell? ⟨2, 0, none⟩ = some (.pointer (some ⟨pb, po, none⟩)) := (hb.cell (World.block_lt_of_cell? _ _ p0)).trans p0
  have H : Hid (E5 w ba oa A ∧ Room w bv ov ∧ R5 w pb po 0 ∧ Al bv ov ba oa ∧ Al bv ov pb po) := hid ⟨ha, hv, r0.below hb lt, al, Or.inr (Or.inl (by omega))⟩
  clear ha hv r0 al hb p0
  go_enter Tryd.func87, Tryd.ntmps87
  go_wp2_with fail
  refine (Subtract_r bv ov pb po ba oa 0 A _ H.out.2.2.1 H.out.1.r5 H.out.2.1 H.out.2.2.2.2 H.out.2.2.2.1).mono ?_
  rintro e w1 ⟨rfl, h1, h2⟩
  have Q : Hid (E5 w1 bv ov (0 - A) ∧ Upd w w1 bv ov 5) := hid ⟨h1, h2⟩
  clear h1 h2
  go_wp2_with fail
  go_ret
  exact ⟨rfl, Q.out⟩

theorem bi_or (c d : Bool) : bits .or .i64 (bi c) (bi d) = bi (c || d) := by cases c <;> cases d <;> decide +kernel
/-- The call returned a new element. -/
def RetE (w : World) (X : Int) (e : Ending) (w' : World) : Prop := ∃ b : Nat, e = .returned (.pointer (some ⟨b, 0, none⟩)) ∧ w.heap.size ≤ b ∧ E5 w' b 0 X ∧ Below w.heap.size w w'
/-- SqrtRatio's first number. -/
def srI (U V : Int) : Int := U * (V * V * V) * zp (U * (V * V * V) * (V * V * (V * V))) 7237005577332262213973186563042994240829374041602535252466099000494570602493
end Go.Proofs.YtflmkgecgijncaaDoor

namespace Go.Proofs.YtflmkgecgijncaaDoor
open Go.RowKit Go.Shelf Mth

set_option maxRecDepth 100000 in
set_option maxHeartbeats 4000000 in
theorem Absolute_any (br ro bu ou : Nat) (U : Int) (z w : World) (hg : Glob z) (hz : Below z.heap.size z w) (hl : z.heap.size ≤ w.heap.size) (h_u : E5 w bu ou U) (h_r : Room w br ro) (al : Al br ro bu ou) :
    Calls Tryd.prog 103 #[.pointer (some ⟨br, ro, none⟩), .pointer (some ⟨bu, ou, none⟩)] w fun e w' => ∃ X, Did w br ro X (.pointer (some ⟨br, ro, none⟩)) e w' := by
  have G : Hid (Glob z ∧ Below z.heap.size z w ∧ Al br ro bu ou) := hid ⟨hg, hz, al⟩
  clear hg hz al
  have E_u : Hid (E5 w bu ou U) := hid h_u
  have lt_u := h_u.lt
  have V_r : Hid (Room w br ro) := hid h_r
  have lt_r := h_r.lt
  have BL : Hid (Below w.heap.size w w) := hid (Below.refl _ _)
  have SZ : Hid (w.heap.size ≤ w.heap.size) := hid (Nat.le_refl _)
  clear h_u h_r
  go_enter Tryd.func103, Tryd.ntmps103
  go_wp2_with fail
  replace E_u := hid (E_u.out.alloc (.cells #[.int .u64 0, .int .u64 0, .int .u64 0, .int .u64 0, .int .u64 0] 80))
  replace V_r := hid (V_r.out.alloc (.cells #[.int .u64 0, .int .u64 0, .int .u64 0, .int .u64 0, .int .u64 0] 80))
  have E_n : Hid (E5 (w.alloc (.cells #[.int .u64 0, .int .u64 0, .int .u64 0, .int .u64 0, .int .u64 0] 80)) w.heap.size 0 0) := hid (by have := e5_new w; simpa using this)
  replace BL : Hid (Below w.heap.size w (w.alloc (.cells #[.int .u64 0, .int .u64 0, .int .u64 0, .int .u64 0, .int .u64 0] 80))) := hid (BL.out.alloc SZ.out _)
  replace SZ : Hid (w.heap.size ≤ ((w.alloc (.cells #[.int .u64 0, .int .u64 0, .int .u64 0, .int .u64 0, .int .u64 0] 80))).heap.size) := hid (by have := SZ.out; rw [show ((w.alloc (.cells #[.int .u64 0, .int .u64 0, .int .u64 0, .int .u64 0, .int .u64 0] 80))).heap.size = (w).heap.size + 1 by simp]; omega)
  generalize (w.alloc (.cells #[.int .u64 0, .int .u64 0, .int .u64 0, .int .u64 0, .int .u64 0] 80)) = w1 at E_u E_n V_r BL SZ ⊢
  refine (Negate_any w.heap.size 0 bu ou U z _ G.out.1 (G.out.2.1.trans (BL.out.mono hl)) (by omega) E_u.out E_n.out.room (Or.inr (Or.inl (by omega)))).mono ?_
  rintro e w2 ⟨rfl, hE, hU⟩
  replace E_u := hid (E_u.out.keep hU (Or.inl (by omega)))
  replace V_r := hid (V_r.out.keep hU (Or.inl (by omega)))
  replace E_n : Hid (E5 w2 w.heap.size 0 (0 - U)) := hid hE
  replace BL := hid (BL.out.trans (hU.below (by omega) SZ.out))
  replace SZ := hid (Nat.le_trans SZ.out hU.size)
  clear hE hU
  go_wp2_with fail
  refine (IsNegative_any bu ou U _ E_u.out).mono ?_
  rintro e w3 ⟨⟨c, rfl⟩, hB⟩
  replace E_u := hid (E_u.out.below hB E_u.out.lt)
  replace E_n := hid (E_n.out.below hB E_n.out.lt)
  replace V_r := hid (V_r.out.below hB V_r.out.lt)
  replace BL := hid (BL.out.trans (hB.mono SZ.out))
  replace SZ := hid (Nat.le_trans SZ.out hB.size)
  clear hB
  go_wp2_with fail
  refine (Select_any c br ro w.heap.size 0 bu ou _ U _ E_n.out E_u.out V_r.out (Or.inr (Or.inl (by omega))) G.out.2.2).mono ?_
  rintro e w' ⟨rfl, hE, hU⟩
  have Q : Hid (E5 w' br ro (sel c U (0 - U)) ∧ Upd w w' br ro 5) := hid ⟨hE, (Upd.of_below br ro 5 BL.out lt_r).trans hU⟩
  clear hE hU
  go_wp2_with fail
  go_ret
  exact ⟨_, rfl, Q.out⟩

/-- Whether SqrtRatio's number is a root. -/
def wasB (U V : Int) : Bool := decide (fp (V * (srI U V * srI U V)) = fp U) || decide (fp (V * (srI U V * srI U V)) = fp (0 - U))
def RetS (w : World) (br ro : Nat) (U V : Int) (e : Ending) (w' : World) : Prop := ∃ X, e = .returned (.tuple #[.pointer (some ⟨br, ro, none⟩), .int .i64 (bi (wasB U V))]) ∧ E5 w' br ro X ∧ Upd w w' br ro 5

set_option maxRecDepth 100000 in
set_option maxHeartbeats 8000000 in
theorem SqrtRatio_any (br ro bu ou bv ov : Nat) (U V : Int) (z w : World) (hg : Glob z) (hz : Below z.heap.size z w) (hl : z.heap.size ≤ w.heap.size) (h_u : E5 w bu ou U) (h_v : E5 w bv ov V) (h_r : Room w br ro) :
    Calls Tryd.prog 86 #[.pointer (some ⟨br, ro, none⟩), .pointer (some ⟨bu, ou, none⟩), .pointer (some ⟨bv, ov, none⟩)] w (RetS w br ro U V) := by
  have G : Hid (Glob z ∧ Below z.heap.size z w) := hid ⟨hg, hz⟩
  clear hg hz
  have E_u : Hid (E5 w bu ou U) := hid h_u
  have lt_u := h_u.lt
  have E_v : Hid (E5 w bv ov V) := hid h_v
  have lt_v := h_v.lt
  have V_r : Hid (Room w br ro) := hid h_r
  have lt_r := h_r.lt
  have BL : Hid (Below w.heap.size w w) := hid (Below.refl _ _)
  have SZ : Hid (w.heap.size ≤ w.heap.size) := hid (Nat.le_refl _)
  clear h_u h_v h_r
  go_enter Tryd.func86, Tryd.ntmps86
  go_wp2_with fail
  replace E_u := hid (E_u.out.alloc (.cells #[.int .u64 0, .int .u64 0, .int .u64 0, .int .u64 0, .int .u64 0] 80))
  replace E_v := hid (E_v.out.alloc (.cells #[.int .u64 0, .int .u64 0, .int .u64 0, .int .u64 0, .int .u64 0] 80))
  replace V_r := hid (V_r.out.alloc (.cells #[.int .u64 0, .int .u64 0, .int .u64 0, .int .u64 0, .int .u64 0] 80))
  have E_t : Hid (E5 (w.alloc (.cells #[.int .u64 0, .int .u64 0, .int .u64 0, .int .u64 0, .int .u64 0] 80)) w.heap.size 0 0) := hid (by have := e5_new w; simpa using this)
  replace BL : Hid (Below w.heap.size w (w.alloc (.cells #[.int .u64 0, .int .u64 0, .int .u64 0, .int .u64 0, .int .u64 0] 80))) := hid (BL.out.alloc SZ.out _)
  replace SZ : Hid (w.heap.size ≤ ((w.alloc (.cells #[.int .u64 0, .int .u64 0, .int .u64 0, .int .u64 0, .int .u64 0] 80))).heap.size) := hid (by have := SZ.out; rw [show ((w.alloc (.cells #[.int .u64 0, .int .u64 0, .int .u64 0, .int .u64 0, .int .u64 0] 80))).heap.size = (w).heap.size + 1 by simp]; omega)
  replace E_u := hid (E_u.out.alloc (.cells #[.int .u64 0, .int .u64 0, .int .u64 0, .int .u64 0, .int .u64 0] 80))
  replace E_v := hid (E_v.out.alloc (.cells #[.int .u64 0, .int .u64 0, .int .u64 0, .int .u64 0, .int .u64 0] 80))
  replace E_t := hid (E_t.out.alloc (.cells #[.int .u64 0, .int .u64 0, .int .u64 0, .int .u64 0, .int .u64 0] 80))
  replace V_r := hid (V_r.out.alloc (.cells #[.int .u64 0, .int .u64 0, .int .u64 0, .int .u64 0, .int .u64 0] 80))
  have E_v2 : Hid (E5 ((w.alloc (.cells #[.int .u64 0, .int .u64 0, .int .u64 0, .int .u64 0, .int .u64 0] 80)).alloc (.cells #[.int .u64 0, .int .u64 0, .int .u64 0, .int .u64 0, .int .u64 0] 80)) (w.heap.size + 1) 0 0) := hid (by have := e5_new (w.alloc (.cells #[.int .u64 0, .int .u64 0, .int .u64 0, .int .u64 0, .int .u64 0] 80)); simpa using this)
  replace BL : Hid (Below w.heap.size w ((w.alloc (.cells #[.int .u64 0, .int .u64 0, .int .u64 0, .int .u64 0, .int .u64 0] 80)).alloc (.cells #[.int .u64 0, .int .u64 0, .int .u64 0, .int .u64 0, .int .u64 0] 80))) := hid (BL.out.alloc SZ.out _)
  replace SZ : Hid (w.heap.size ≤ (((w.alloc (.cells #[.int .u64 0, .int .u64 0, .int .u64 0, .int .u64 0, .int .u64 0] 80)).alloc (.cells #[.int .u64 0, .int .u64 0, .int .u64 0, .int .u64 0, .int .u64 0] 80))).heap.size) := hid (by have := SZ.out; rw [show (((w.alloc (.cells #[.int .u64 0, .int .u64 0, .int .u64 0, .int .u64 0, .int .u64 0] 80)).alloc (.cells #[.int .u64 0, .int .u64 0, .int .u64 0, .int .u64 0, .int .u64 0] 80))).heap.size = ((w.alloc (.cells #[.int .u64 0, .int .u64 0, .int .u64 0, .int .u64 0, .int .u64 0] 80))).heap.size + 1 by simp]; omega)
  generalize ((w.alloc (.cells #[.int .u64 0, .int .u64 0, .int .u64 0, .int .u64 0, .int .u64 0] 80)).alloc (.cells #[.int .u64 0, .int .u64 0, .int .u64 0, .int .u64 0, .int .u64 0] 80)) = w1 at E_u E_v E_t E_v2 V_r BL SZ ⊢
  refine (Square_any (w.heap.size + 1) 0 bv ov V _ E_v.out E_v2.out.room).mono ?_
  rintro e w2 ⟨rfl, hE, hU⟩
  replace E_u := hid (E_u.out.keep hU (Or.inl (by omega)))
  replace E_v := hid (E_v.out.keep hU (Or.inl (by omega)))
  replace E_t := hid (E_t.out.keep hU (Or.inl (by omega)))
  replace V_r := hid (V_r.out.keep hU (Or.inl (by omega)))
  replace E_v2 : Hid (E5 w2 (w.heap.size + 1) 0 (V * V)) := hid hE
  replace BL := hid (BL.out.trans (hU.below (by omega) SZ.out))
  replace SZ := hid (Nat.le_trans SZ.out hU.size)
  clear hE hU
  go_wp2_with fail
  have c_uv3 : (w.heap.size + 1) < w2.heap.size := E_v2.out.lt
  replace E_u := hid (E_u.out.alloc (.cells #[.int .u64 0, .int .u64 0, .int .u64 0, .int .u64 0, .int .u64 0] 80))
  replace E_v := hid (E_v.out.alloc (.cells #[.int .u64 0, .int .u64 0, .int .u64 0, .int .u64 0, .int .u64 0] 80))
  replace E_t := hid (E_t.out.alloc (.cells #[.int .u64 0, .int .u64 0, .int .u64 0, .int .u64 0, .int .u64 0] 80))
  replace E_v2 := hid (E_v2.out.alloc (.cells #[.int .u64 0, .int .u64 0, .int .u64 0, .int .u64 0, .int .u64 0] 80))
  replace V_r := hid (V_r.out.alloc (.cells #[.int .u64 0, .int .u64 0, .int .u64 0, .int .u64 0, .int .u64 0] 80))
  have E_uv3 : Hid (E5 (w2.alloc (.cells #[.int .u64 0, .int .u64 0, .int .u64 0, .int .u64 0, .int .u64 0] 80)) w2.heap.size 0 0) := hid (by have := e5_new w2; simpa using this)
  replace BL : Hid (Below w.heap.size w (w2.alloc (.cells #[.int .u64 0, .int .u64 0, .int .u64 0, .int .u64 0, .int .u64 0] 80))) := hid (BL.out.alloc SZ.out _)
  replace SZ : Hid (w.heap.size ≤ ((w2.alloc (.cells #[.int .u64 0, .int .u64 0, .int .u64 0, .int .u64 0, .int .u64 0] 80))).heap.size) := hid (by have := SZ.out; rw [show ((w2.alloc (.cells #[.int .u64 0, .int .u64 0, .int .u64 0, .int .u64 0, .int .u64 0] 80))).heap.size = (w2).heap.size + 1 by simp]; omega)
  generalize (w2.alloc (.cells #[.int .u64 0, .int .u64 0, .int .u64 0, .int .u64 0, .int .u64 0] 80)) = w3 at E_u E_v E_t E_v2 E_uv3 V_r BL SZ ⊢
  refine (Multiply_any w.heap.size 0 (w.heap.size + 1) 0 bv ov (V * V) V _ E_v2.out E_v.out E_t.out.room).mono ?_
  rintro e w4 ⟨rfl, hE, hU⟩
  replace E_u := hid (E_u.out.keep hU (Or.inl (by omega)))
  replace E_v := hid (E_v.out.keep hU (Or.inl (by omega)))
  replace E_v2 := hid (E_v2.out.keep hU (Or.inl (by omega)))
  replace E_uv3 := hid (E_uv3.out.keep hU (Or.inl (by omega)))
  replace V_r := hid (V_r.out.keep hU (Or.inl (by omega)))
  replace E_t : Hid (E5 w4 w.heap.size 0 (V * V * V)) := hid hE
  replace BL := hid (BL.out.trans (hU.below (by omega) SZ.out))
  replace SZ := hid (Nat.le_trans SZ.out hU.size)
  clear hE hU
  go_wp2_with fail
  refine (Multiply_any w2.heap.size 0 bu ou w.heap.size 0 U (V * V * V) _ E_u.out E_t.out E_uv3.out.room).mono ?_
  rintro e w5 ⟨rfl, hE, hU⟩
  replace E_u := hid (E_u.out.keep hU (Or.inl (by omega)))
  replace E_v := hid (E_v.out.keep hU (Or.inl (by omega)))
  replace E_t := hid (E_t.out.keep hU (Or.inl (by omega)))
  replace E_v2 := hid (E_v2.out.keep hU (Or.inl (by omega)))
  replace V_r := hid (V_r.out.keep hU (Or.inl (by omega)))
  replace E_uv3 : Hid (E5 w5 w2.heap.size 0 (U * (V * V * V))) := hid hE
  replace BL := hid (BL.out.trans (hU.below (by omega) SZ.out))
  replace SZ := hid (Nat.le_trans SZ.out hU.size)
  clear hE hU
  go_wp2_with fail
  have c_uv7 : w2.heap.size < w5.heap.size := E_uv3.out.lt
  replace E_u := hid (E_u.out.alloc (.cells #[.int .u64 0, .int .u64 0, .int .u64 0, .int .u64 0, .int .u64 0] 80))
  replace E_v := hid (E_v.out.alloc (.cells #[.int .u64 0, .int .u64 0, .int .u64 0, .int .u64 0, .int .u64 0] 80))
  replace E_t := hid (E_t.out.alloc (.cells #[.int .u64 0, .int .u64 0, .int .u64 0, .int .u64 0, .int .u64 0] 80))
  replace E_v2 := hid (E_v2.out.alloc (.cells #[.int .u64 0, .int .u64 0, .int .u64 0, .int .u64 0, .int .u64 0] 80))
  replace E_uv3 := hid (E_uv3.out.alloc (.cells #[.int .u64 0, .int .u64 0, .int .u64 0, .int .u64 0, .int .u64 0] 80))
  replace V_r := hid (V_r.out.alloc (.cells #[.int .u64 0, .int .u64 0, .int .u64 0, .int .u64 0, .int .u64 0] 80))
  have E_uv7 : Hid (E5 (w5.alloc (.cells #[.int .u64 0, .int .u64 0, .int .u64 0, .int .u64 0, .int .u64 0] 80)) w5.heap.size 0 0) := hid (by have := e5_new w5; simpa using this)
  replace BL : Hid (Below w.heap.size w (w5.alloc (.cells #[.int .u64 0, .int .u64 0, .int .u64 0, .int .u64 0, .int .u64 0] 80))) := hid (BL.out.alloc SZ.out _)
  replace SZ : Hid (w.heap.size ≤ ((w5.alloc (.cells #[.int .u64 0, .int .u64 0, .int .u64 0, .int .u64 0, .int .u64 0] 80))).heap.size) := hid (by have := SZ.out; rw [show ((w5.alloc (.cells #[.int .u64 0, .int .u64 0, .int .u64 0, .int .u64 0, .int .u64 0] 80))).heap.size = (w5).heap.size + 1 by simp]; omega)
  generalize (w5.alloc (.cells #[.int .u64 0, .int .u64 0, .int .u64 0, .int .u64 0, .int .u64 0] 80)) = w6 at E_u E_v E_t E_v2 E_uv3 E_uv7 V_r BL SZ ⊢
  refine (Square_any w.heap.size 0 (w.heap.size + 1) 0 (V * V) _ E_v2.out E_t.out.room).mono ?_
  rintro e w7 ⟨rfl, hE, hU⟩
  replace E_u := hid (E_u.out.keep hU (Or.inl (by omega)))
  replace E_v := hid (E_v.out.keep hU (Or.inl (by omega)))
  replace E_v2 := hid (E_v2.out.keep hU (Or.inl (by omega)))
  replace E_uv3 := hid (E_uv3.out.keep hU (Or.inl (by omega)))
  replace E_uv7 := hid (E_uv7.out.keep hU (Or.inl (by omega)))
  replace V_r := hid (V_r.out.keep hU (Or.inl (by omega)))
  replace E_t : Hid (E5 w7 w.heap.size 0 (V * V * (V * V))) := hid hE
  replace BL := hid (BL.out.trans (hU.below (by omega) SZ.out))
  replace SZ := hid (Nat.le_trans SZ.out hU.size)
  clear hE hU
  go_wp2_with fail
  refine (Multiply_any w5.heap.size 0 w2.heap.size 0 w.heap.size 0 (U * (V * V * V)) (V * V * (V * V)) _ E_uv3.out E_t.out E_uv7.out.room).mono ?_
  rintro e w8 ⟨rfl, hE, hU⟩
  replace E_u := hid (E_u.out.keep hU (Or.inl (by omega)))
  replace E_v := hid (E_v.out.keep hU (Or.inl (by omega)))
  replace E_t := hid (E_t.out.keep hU (Or.inl (by omega)))
  replace E_v2 := hid (E_v2.out.keep hU (Or.inl (by omega)))
  replace E_uv3 := hid (E_uv3.out.keep hU (Or.inl (by omega)))
  replace V_r := hid (V_r.out.keep hU (Or.inl (by omega)))
  replace E_uv7 : Hid (E5 w8 w5.heap.size 0 (U * (V * V * V) * (V * V * (V * V)))) := hid hE
  replace BL := hid (BL.out.trans (hU.below (by omega) SZ.out))
  replace SZ := hid (Nat.le_trans SZ.out hU.size)
  clear hE hU
  go_wp2_with fail
  have c_rr : w5.heap.size < w8.heap.size := E_uv7.out.lt
  replace E_u := hid (E_u.out.alloc (.cells #[.int .u64 0, .int .u64 0, .int .u64 0, .int .u64 0, .int .u64 0] 80))
  replace E_v := hid (E_v.out.alloc (.cells #[.int .u64 0, .int .u64 0, .int .u64 0, .int .u64 0, .int .u64 0] 80))
  replace E_t := hid (E_t.out.alloc (.cells #[.int .u64 0, .int .u64 0, .int .u64 0, .int .u64 0, .int .u64 0] 80))
  replace E_v2 := hid (E_v2.out.alloc (.cells #[.int .u64 0, .int .u64 0, .int .u64 0, .int .u64 0, .int .u64 0] 80))
  replace E_uv3 := hid (E_uv3.out.alloc (.cells #[.int .u64 0, .int .u64 0, .int .u64 0, .int .u64 0, .int .u64 0] 80))
  replace E_uv7 := hid (E_uv7.out.alloc (.cells #[.int .u64 0, .int .u64 0, .int .u64 0, .int .u64 0, .int .u64 0] 80))
  replace V_r := hid (V_r.out.alloc (.cells #[.int .u64 0, .int .u64 0, .int .u64 0, .int .u64 0, .int .u64 0] 80))
  have E_rr : Hid (E5 (w8.alloc (.cells #[.int .u64 0, .int .u64 0, .int .u64 0, .int .u64 0, .int .u64 0] 80)) w8.heap.size 0 0) := hid (by have := e5_new w8; simpa using this)
  replace BL : Hid (Below w.heap.size w (w8.alloc (.cells #[.int .u64 0, .int .u64 0, .int .u64 0, .int .u64 0, .int .u64 0] 80))) := hid (BL.out.alloc SZ.out _)
  replace SZ : Hid (w.heap.size ≤ ((w8.alloc (.cells #[.int .u64 0, .int .u64 0, .int .u64 0, .int .u64 0, .int .u64 0] 80))).heap.size) := hid (by have := SZ.out; rw [show ((w8.alloc (.cells #[.int .u64 0, .int .u64 0, .int .u64 0, .int .u64 0, .int .u64 0] 80))).heap.size = (w8).heap.size + 1 by simp]; omega)
  generalize (w8.alloc (.cells #[.int .u64 0, .int .u64 0, .int .u64 0, .int .u64 0, .int .u64 0] 80)) = w9 at E_u E_v E_t E_v2 E_uv3 E_uv7 E_rr V_r BL SZ ⊢
  clear E_v2
  refine (Pow22523_any w.heap.size 0 w5.heap.size 0 (U * (V * V * V) * (V * V * (V * V))) _ E_uv7.out E_t.out.room).mono ?_
  rintro e w10 ⟨rfl, hE, hU⟩
  replace E_u := hid (E_u.out.keep hU (Or.inl (by omega)))
  replace E_v := hid (E_v.out.keep hU (Or.inl (by omega)))
  replace E_uv3 := hid (E_uv3.out.keep hU (Or.inl (by omega)))
  replace E_uv7 := hid (E_uv7.out.keep hU (Or.inl (by omega)))
  replace E_rr := hid (E_rr.out.keep hU (Or.inl (by omega)))
  replace V_r := hid (V_r.out.keep hU (Or.inl (by omega)))
  replace E_t : Hid (E5 w10 w.heap.size 0 (zp (U * (V * V * V) * (V * V * (V * V))) 7237005577332262213973186563042994240829374041602535252466099000494570602493)) := hid hE
  replace BL := hid (BL.out.trans (hU.below (by omega) SZ.out))
  replace SZ := hid (Nat.le_trans SZ.out hU.size)
  clear hE hU
  go_wp2_with fail
  clear E_uv7
  refine (Multiply_any w8.heap.size 0 w2.heap.size 0 w.heap.size 0 (U * (V * V * V)) (zp (U * (V * V * V) * (V * V * (V * V))) 7237005577332262213973186563042994240829374041602535252466099000494570602493) _ E_uv3.out E_t.out E_rr.out.room).mono ?_
  rintro e w11 ⟨rfl, hE, hU⟩
  replace E_u := hid (E_u.out.keep hU (Or.inl (by omega)))
  replace E_v := hid (E_v.out.keep hU (Or.inl (by omega)))
  replace E_t := hid (E_t.out.keep hU (Or.inl (by omega)))
  replace E_uv3 := hid (E_uv3.out.keep hU (Or.inl (by omega)))
  replace V_r := hid (V_r.out.keep hU (Or.inl (by omega)))
  replace E_rr : Hid (E5 w11 w8.heap.size 0 (srI U V)) := hid hE
  replace BL := hid (BL.out.trans (hU.below (by omega) SZ.out))
  replace SZ := hid (Nat.le_trans SZ.out hU.size)
  clear hE hU
  go_wp2_with fail
  clear E_uv3
  have c_ck : w8.heap.size < w11.heap.size := E_rr.out.lt
  replace E_u := hid (E_u.out.alloc (.cells #[.int .u64 0, .int .u64 0, .int .u64 0, .int .u64 0, .int .u64 0] 80))
  replace E_v := hid (E_v.out.alloc (.cells #[.int .u64 0, .int .u64 0, .int .u64 0, .int .u64 0, .int .u64 0] 80))
  replace E_t := hid (E_t.out.alloc (.cells #[.int .u64 0, .int .u64 0, .int .u64 0, .int .u64 0, .int .u64 0] 80))
  replace E_rr := hid (E_rr.out.alloc (.cells #[.int .u64 0, .int .u64 0, .int .u64 0, .int .u64 0, .int .u64 0] 80))
  replace V_r := hid (V_r.out.alloc (.cells #[.int .u64 0, .int .u64 0, .int .u64 0, .int .u64 0, .int .u64 0] 80))
  have E_ck : Hid (E5 (w11.alloc (.cells #[.int .u64 0, .int .u64 0, .int .u64 0, .int .u64 0, .int .u64 0] 80)) w11.heap.size 0 0) := hid (by have := e5_new w11; simpa using this)
  replace BL : Hid (Below w.heap.size w (w11.alloc (.cells #[.int .u64 0, .int .u64 0, .int .u64 0, .int .u64 0, .int .u64 0] 80))) := hid (BL.out.alloc SZ.out _)
  replace SZ : Hid (w.heap.size ≤ ((w11.alloc (.cells #[.int .u64 0, .int .u64 0, .int .u64 0, .int .u64 0, .int .u64 0] 80))).heap.size) := hid (by have := SZ.out; rw [show ((w11.alloc (.cells #[.int .u64 0, .int .u64 0, .int .u64 0, .int .u64 0, .int .u64 0] 80))).heap.size = (w11).heap.size + 1 by simp]; omega)
  generalize (w11.alloc (.cells #[.int .u64 0, .int .u64 0, .int .u64 0, .int .u64 0, .int .u64 0] 80)) = w12 at E_u E_v E_t E_rr E_ck V_r BL SZ ⊢
  refine (Square_any w.heap.size 0 w8.heap.size 0 (srI U V) _ E_rr.out E_t.out.room).mono ?_
  rintro e w13 ⟨rfl, hE, hU⟩
  replace E_u := hid (E_u.out.keep hU (Or.inl (by omega)))
  replace E_v := hid (E_v.out.keep hU (Or.inl (by omega)))
  replace E_rr := hid (E_rr.out.keep hU (Or.inl (by omega)))
  replace E_ck := hid (E_ck.out.keep hU (Or.inl (by omega)))
  replace V_r := hid (V_r.out.keep hU (Or.inl (by omega)))
  replace E_t : Hid (E5 w13 w.heap.size 0 (srI U V * srI U V)) := hid hE
  replace BL := hid (BL.out.trans (hU.below (by omega) SZ.out))
  replace SZ := hid (Nat.le_trans SZ.out hU.size)
  clear hE hU
  go_wp2_with fail
  refine (Multiply_any w11.heap.size 0 bv ov w.heap.size 0 V (srI U V * srI U V) _ E_v.out E_t.out E_ck.out.room).mono ?_
  rintro e w14 ⟨rfl, hE, hU⟩
  replace E_u := hid (E_u.out.keep hU (Or.inl (by omega)))
  replace E_v := hid (E_v.out.keep hU (Or.inl (by omega)))
  replace E_t := hid (E_t.out.keep hU (Or.inl (by omega)))
  replace E_rr := hid (E_rr.out.keep hU (Or.inl (by omega)))
  replace V_r := hid (V_r.out.keep hU (Or.inl (by omega)))
  replace E_ck : Hid (E5 w14 w11.heap.size 0 (V * (srI U V * srI U V))) := hid hE
  replace BL := hid (BL.out.trans (hU.below (by omega) SZ.out))
  replace SZ := hid (Nat.le_trans SZ.out hU.size)
  clear hE hU
  go_wp2_with fail
  have c_un : w11.heap.size < w14.heap.size := E_ck.out.lt
  replace E_u := hid (E_u.out.alloc (.cells #[.int .u64 0, .int .u64 0, .int .u64 0, .int .u64 0, .int .u64 0] 80))
  replace E_v := hid (E_v.out.alloc (.cells #[.int .u64 0, .int .u64 0, .int .u64 0, .int .u64 0, .int .u64 0] 80))
  replace E_t := hid (E_t.out.alloc (.cells #[.int .u64 0, .int .u64 0, .int .u64 0, .int .u64 0, .int .u64 0] 80))
  replace E_rr := hid (E_rr.out.alloc (.cells #[.int .u64 0, .int .u64 0, .int .u64 0, .int .u64 0, .int .u64 0] 80))
  replace E_ck := hid (E_ck.out.alloc (.cells #[.int .u64 0, .int .u64 0, .int .u64 0, .int .u64 0, .int .u64 0] 80))
  replace V_r := hid (V_r.out.alloc (.cells #[.int .u64 0, .int .u64 0, .int .u64 0, .int .u64 0, .int .u64 0] 80))
  have E_un : Hid (E5 (w14.alloc (.cells #[.int .u64 0, .int .u64 0, .int .u64 0, .int .u64 0, .int .u64 0] 80)) w14.heap.size 0 0) := hid (by have := e5_new w14; simpa using this)
  replace BL : Hid (Below w.heap.size w (w14.alloc (.cells #[.int .u64 0, .int .u64 0, .int .u64 0, .int .u64 0, .int .u64 0] 80))) := hid (BL.out.alloc SZ.out _)
  replace SZ : Hid (w.heap.size ≤ ((w14.alloc (.cells #[.int .u64 0, .int .u64 0, .int .u64 0, .int .u64 0, .int .u64 0] 80))).heap.size) := hid (by have := SZ.out; rw [show ((w14.alloc (.cells #[.int .u64 0, .int .u64 0, .int .u64 0, .int .u64 0, .int .u64 0] 80))).heap.size = (w14).heap.size + 1 by simp]; omega)
  generalize (w14.alloc (.cells #[.int .u64 0, .int .u64 0, .int .u64 0, .int .u64 0, .int .u64 0] 80)) = w15 at E_u E_v E_t E_rr E_ck E_un V_r BL SZ ⊢
  refine (Negate_any w14.heap.size 0 bu ou U z _ G.out.1 (G.out.2.trans (BL.out.mono hl)) (by omega) E_u.out E_un.out.room (Or.inr (Or.inl (by omega)))).mono ?_
  rintro e w16 ⟨rfl, hE, hU⟩
  replace E_u := hid (E_u.out.keep hU (Or.inl (by omega)))
  replace E_v := hid (E_v.out.keep hU (Or.inl (by omega)))
  replace E_t := hid (E_t.out.keep hU (Or.inl (by omega)))
  replace E_rr := hid (E_rr.out.keep hU (Or.inl (by omega)))
  replace E_ck := hid (E_ck.out.keep hU (Or.inl (by omega)))
  replace V_r := hid (V_r.out.keep hU (Or.inl (by omega)))
  replace E_un : Hid (E5 w16 w14.heap.size 0 (0 - U)) := hid hE
  replace BL := hid (BL.out.trans (hU.below (by omega) SZ.out))
  replace SZ := hid (Nat.le_trans SZ.out hU.size)
  clear hE hU
  obtain ⟨C, hC⟩ : ∃ C, C = V * (srI U V * srI U V) := ⟨_, rfl⟩
  rw [← hC] at E_ck
  obtain ⟨p1, hp1⟩ : ∃ p, decide (fp C = fp U) = p := ⟨_, rfl⟩
  obtain ⟨p2, hp2⟩ : ∃ p, decide (fp C = fp (0 - U)) = p := ⟨_, rfl⟩
  have HW : Hid (wasB U V = (p1 || p2)) := hid (by unfold wasB; rw [← hC, hp1, hp2])
  replace hp1 := hid hp1
  replace hp2 := hid hp2
  clear hC
  go_wp2_with fail
  refine (Equal_any w11.heap.size 0 bu ou C U _ E_ck.out E_u.out).mono ?_
  rintro e w17 ⟨rfl, hB⟩
  rw [hp1.out]
  replace E_u := hid (E_u.out.below hB E_u.out.lt)
  replace E_v := hid (E_v.out.below hB E_v.out.lt)
  replace E_t := hid (E_t.out.below hB E_t.out.lt)
  replace E_rr := hid (E_rr.out.below hB E_rr.out.lt)
  replace E_ck := hid (E_ck.out.below hB E_ck.out.lt)
  replace E_un := hid (E_un.out.below hB E_un.out.lt)
  replace V_r := hid (V_r.out.below hB V_r.out.lt)
  replace BL := hid (BL.out.trans (hB.mono SZ.out))
  replace SZ := hid (Nat.le_trans SZ.out hB.size)
  clear hB
  go_wp2_with fail
  refine (Equal_any w11.heap.size 0 w14.heap.size 0 C (0 - U) _ E_ck.out E_un.out).mono ?_
  rintro e w18 ⟨rfl, hB⟩
  rw [hp2.out]
  replace E_u := hid (E_u.out.below hB E_u.out.lt)
  replace E_v := hid (E_v.out.below hB E_v.out.lt)
  replace E_t := hid (E_t.out.below hB E_t.out.lt)
  replace E_rr := hid (E_rr.out.below hB E_rr.out.lt)
  replace E_ck := hid (E_ck.out.below hB E_ck.out.lt)
  replace E_un := hid (E_un.out.below hB E_un.out.lt)
  replace V_r := hid (V_r.out.below hB V_r.out.lt)
  replace BL := hid (BL.out.trans (hB.mono SZ.out))
  replace SZ := hid (Nat.le_trans SZ.out hB.size)
  clear hB
  obtain ⟨-, -, qb, qo, I, q, hi⟩ := G.out.1.below (G.out.2.trans (BL.out.mono hl))
  replace hi := hid hi
  go_wp2_with fail
  refine (Multiply_r w.heap.size 0 w14.heap.size 0 qb qo (0 - U) I _ E_un.out.r5 hi.out E_t.out.room).mono ?_
  rintro e w19 ⟨rfl, hE, hU⟩
  clear q hi
  replace E_u := hid (E_u.out.keep hU (Or.inl (by omega)))
  replace E_v := hid (E_v.out.keep hU (Or.inl (by omega)))
  replace E_rr := hid (E_rr.out.keep hU (Or.inl (by omega)))
  replace E_ck := hid (E_ck.out.keep hU (Or.inl (by omega)))
  replace E_un := hid (E_un.out.keep hU (Or.inl (by omega)))
  replace V_r := hid (V_r.out.keep hU (Or.inl (by omega)))
  replace E_t : Hid (E5 w19 w.heap.size 0 ((0 - U) * I)) := hid hE
  replace BL := hid (BL.out.trans (hU.below (by omega) SZ.out))
  replace SZ := hid (Nat.le_trans SZ.out hU.size)
  clear hE hU
  go_wp2_with fail
  refine (Equal_any w11.heap.size 0 w.heap.size 0 C ((0 - U) * I) _ E_ck.out E_t.out).mono ?_
  rintro e w20 ⟨rfl, hB⟩
  generalize decide (fp C = fp ((0 - U) * I)) = p3
  replace E_u := hid (E_u.out.below hB E_u.out.lt)
  replace E_v := hid (E_v.out.below hB E_v.out.lt)
  replace E_t := hid (E_t.out.below hB E_t.out.lt)
  replace E_rr := hid (E_rr.out.below hB E_rr.out.lt)
  replace E_ck := hid (E_ck.out.below hB E_ck.out.lt)
  replace E_un := hid (E_un.out.below hB E_un.out.lt)
  replace V_r := hid (V_r.out.below hB V_r.out.lt)
  replace BL := hid (BL.out.trans (hB.mono SZ.out))
  replace SZ := hid (Nat.le_trans SZ.out hB.size)
  clear hB
  clear E_t
  clear E_ck
  clear E_u
  clear E_v
  obtain ⟨-, -, qb2, qo2, J, q, hi⟩ := G.out.1.below (G.out.2.trans (BL.out.mono hl))
  replace hi := hid hi
  replace q := (((Below.refl w20.heap.size w20).alloc (Nat.le_refl _) (.cells #[.int .u64 0, .int .u64 0, .int .u64 0, .int .u64 0, .int .u64 0] 80)).cell (World.block_lt_of_cell? _ _ q)).trans q
  have o1 := bi_or p1 p2
  have o2 := bi_or p2 p3
  go_wp2_with fail
  have c_rp : w14.heap.size < w20.heap.size := E_un.out.lt
  replace E_rr := hid (E_rr.out.alloc (.cells #[.int .u64 0, .int .u64 0, .int .u64 0, .int .u64 0, .int .u64 0] 80))
  replace E_un := hid (E_un.out.alloc (.cells #[.int .u64 0, .int .u64 0, .int .u64 0, .int .u64 0, .int .u64 0] 80))
  replace V_r := hid (V_r.out.alloc (.cells #[.int .u64 0, .int .u64 0, .int .u64 0, .int .u64 0, .int .u64 0] 80))
  replace hi := hid (hi.out.below ((Below.refl _ _).alloc (Nat.le_refl _) (.cells #[.int .u64 0, .int .u64 0, .int .u64 0, .int .u64 0, .int .u64 0] 80)) hi.out.lt)
  have E_rp : Hid (E5 (w20.alloc (.cells #[.int .u64 0, .int .u64 0, .int .u64 0, .int .u64 0, .int .u64 0] 80)) w20.heap.size 0 0) := hid (by have := e5_new w20; simpa using this)
  replace BL : Hid (Below w.heap.size w (w20.alloc (.cells #[.int .u64 0, .int .u64 0, .int .u64 0, .int .u64 0, .int .u64 0] 80))) := hid (BL.out.alloc SZ.out _)
  replace SZ : Hid (w.heap.size ≤ ((w20.alloc (.cells #[.int .u64 0, .int .u64 0, .int .u64 0, .int .u64 0, .int .u64 0] 80))).heap.size) := hid (by have := SZ.out; rw [show ((w20.alloc (.cells #[.int .u64 0, .int .u64 0, .int .u64 0, .int .u64 0, .int .u64 0] 80))).heap.size = (w20).heap.size + 1 by simp]; omega)
  generalize (w20.alloc (.cells #[.int .u64 0, .int .u64 0, .int .u64 0, .int .u64 0, .int .u64 0] 80)) = w21 at E_rr E_un E_rp V_r hi BL SZ ⊢
  refine (Multiply_r w20.heap.size 0 w8.heap.size 0 qb2 qo2 (srI U V) J _ E_rr.out.r5 hi.out E_rp.out.room).mono ?_
  rintro e w22 ⟨rfl, hE, hU⟩
  clear q hi
  replace E_rr := hid (E_rr.out.keep hU (Or.inl (by omega)))
  replace E_un := hid (E_un.out.keep hU (Or.inl (by omega)))
  replace V_r := hid (V_r.out.keep hU (Or.inl (by omega)))
  replace E_rp : Hid (E5 w22 w20.heap.size 0 (srI U V * J)) := hid hE
  replace BL := hid (BL.out.trans (hU.below (by omega) SZ.out))
  replace SZ := hid (Nat.le_trans SZ.out hU.size)
  clear hE hU
  go_wp2_with fail
  refine (Select_any (p2 || p3) w8.heap.size 0 w20.heap.size 0 w8.heap.size 0 _ _ _ E_rp.out E_rr.out E_rr.out.room (Or.inr (Or.inl (by omega))) (Or.inl ⟨rfl, rfl⟩)).mono ?_
  rintro e w23 ⟨rfl, hE, hU⟩
  replace E_un := hid (E_un.out.keep hU (Or.inl (by omega)))
  replace E_rp := hid (E_rp.out.keep hU (Or.inl (by omega)))
  replace V_r := hid (V_r.out.keep hU (Or.inl (by omega)))
  replace E_rr : Hid (E5 w23 w8.heap.size 0 (sel (p2 || p3) (srI U V) (srI U V * J))) := hid hE
  replace BL := hid (BL.out.trans (hU.below (by omega) SZ.out))
  replace SZ := hid (Nat.le_trans SZ.out hU.size)
  clear hE hU
  go_wp2_with fail
  refine (Absolute_any br ro w8.heap.size 0 _ z _ G.out.1 (G.out.2.trans (BL.out.mono hl)) (Nat.le_trans hl SZ.out) E_rr.out V_r.out (Or.inr (Or.inl (by omega)))).mono ?_
  rintro e w' ⟨X, rfl, hE, hU⟩
  have Q : Hid (E5 w' br ro X ∧ Upd w w' br ro 5) := hid ⟨hE, (Upd.of_below br ro 5 BL.out lt_r).trans hU⟩
  clear hE hU
  go_wp2_with fail
  go_ret2
  exact ⟨X, by rw [HW.out]; rfl, Q.out⟩

end Go.Proofs.YtflmkgecgijncaaDoor
