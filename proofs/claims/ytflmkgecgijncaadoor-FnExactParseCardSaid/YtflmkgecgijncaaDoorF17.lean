/-
  The ladder's walk, printed by gen_lad2.py.
-/
import Derived.Test.YtflmkgecgijncaaDoorF16
namespace Go.Proofs.YtflmkgecgijncaaDoor
open Go.RowKit Go.Shelf

/-- The ladder's start and end are told by this: the number that the bytes of the result encode. -/
def pout (x1 : Int) (k : Nat → Bool) : Int :=
  let s := pst x1 k 255
  sel s.2 s.1.1 s.1.2.2.1 * zp (sel s.2 s.1.2.1 s.1.2.2.2) 57896044618658097711785492504343953926634992332820282019728792003956564819947

/-- The call wrote the 32 bytes of the ladder's number into block b; nothing below it has turned. -/
def Ladder (w : World) (b : Nat) (x1 : Int) (k : Nat → Bool) (e : Ending) (w' : World) : Prop :=
  e = .returned (.tuple #[]) ∧ Arr w' b (byteOf (pout x1 k % pI)) ∧ Below b w w'

/-- What is known when the elements have been laid. -/
structure LStart (w W : World) (n N : Nat) (f : Nat → Int) : Prop where
  bel : Below n w W
  by0 : Bytes W n 0 32 (cl f)
  e0 : E5 W N 0 0
  e1 : E5 W (N + 1) 0 0
  e2 : E5 W (N + 2) 0 0
  e3 : E5 W (N + 3) 0 0
  e4 : E5 W (N + 4) 0 0
  e5 : E5 W (N + 5) 0 0
  e6 : E5 W (N + 6) 0 0
  size : N + 7 ≤ W.heap.size

/-- The four numbers behind a round, from the state s and the bit b. -/
def pnext (u : Int) (q : Int × Int × Int × Int) (c : Bool) : Int × Int × Int × Int := pstep u (sel c q.1 q.2.2.1) (sel c q.2.1 q.2.2.2) (sel c q.2.2.1 q.1) (sel c q.2.2.2 q.2.1)

theorem linv_step {w W : World} {n N : Nat} {f : Nat → Int} {u : Int} {j t : Nat} {s b : Bool} (hs : (pst u (kb f) j).2 = s) (ht : t = 254 - j) (hb : kb f t = b) (hj : j < 255)
    (x1 : E5 W N 0 u) (x2 : E5 W (N + 1) 0 (pnext u (pst u (kb f) j).1 (s != b)).1) (z2 : E5 W (N + 2) 0 (pnext u (pst u (kb f) j).1 (s != b)).2.1)
    (x3 : E5 W (N + 3) 0 (pnext u (pst u (kb f) j).1 (s != b)).2.2.1) (z3 : E5 W (N + 4) 0 (pnext u (pst u (kb f) j).1 (s != b)).2.2.2)
    (t0 : Room W (N + 5) 0) (t1 : Room W (N + 6) 0) (by0 : Bytes W n 0 32 (cl f)) (bel : Below n w W) (sz : N + 7 ≤ W.heap.size) :
    ∃ i, LInv w n N f u (.int .i64 (bi b)) (.int .i64 ((t : Int) - 1)) W i := by
  subst ht hb hs
  exact ⟨j + 1, by omega, congrArg (Value.int .i64) (by omega), rfl, x1, x2, z2, x3, z3, t0, t1, by0, bel, sz⟩

theorem and7 (t : Nat) (h : t ≤ 254) : bits .and .i64 (t : Int) 7 = ((t % 8 : Nat) : Int) := by
  have e : bits .and .i64 (t : Int) 7 = (t : Int) % 8 := bits_mask .i64 63 (by decide) (fun n h0 h1 => by rw [IntKind.wrap_i64]; omega) 3 (by decide) t (by omega) (by omega)
  rw [e]; omega

theorem clamp_bytes {w1 : World} {n : Nat} {f : Nat → Int} {z : Int} (h : Arr w1 n f) :
    Bytes (((w1.setCell ⟨n, 0, none⟩ (.int .u8 (f 0 / 8 * 8))).setCell ⟨n, 31, none⟩ (.int .u8 z)).setCell ⟨n, 31, none⟩ (.int .u8 (f 31 % 64 + 64))) n 0 32 (cl f) := by
  intro j hj
  have hb := h.bytes j hj
  rw [Nat.zero_add] at hb ⊢
  have hs : (w1.cell? ⟨n, j, none⟩).isSome = true := by rw [hb]; rfl
  unfold cl
  by_cases h0 : j = 0
  · subst h0
    rw [limbs_past (by omega), limbs_past (by omega), limbs_put hs rfl]; rfl
  by_cases h1 : j = 31
  · subst h1
    rw [limbs_put (isSome_set (isSome_set hs)) rfl]; rfl
  rw [limbs_past (by omega), limbs_past (by omega), limbs_past (by omega), if_neg h0, if_neg h1]; exact hb

theorem lstart_mk {w w1 : World} {n : Nat} {f : Nat → Int} {z : Int} (h : Arr w1 n f) (hb : Below n w w1) (hn : n < w1.heap.size) :
    LStart w ((((((((((w1.setCell ⟨n, 0, none⟩ (.int .u8 (f 0 / 8 * 8))).setCell ⟨n, 31, none⟩ (.int .u8 z)).setCell ⟨n, 31, none⟩ (.int .u8 (f 31 % 64 + 64))).alloc (.cells #[.int .u64 0, .int .u64 0, .int .u64 0, .int .u64 0, .int .u64 0] 80)).alloc (.cells #[.int .u64 0, .int .u64 0, .int .u64 0, .int .u64 0, .int .u64 0] 80)).alloc (.cells #[.int .u64 0, .int .u64 0, .int .u64 0, .int .u64 0, .int .u64 0] 80)).alloc (.cells #[.int .u64 0, .int .u64 0, .int .u64 0, .int .u64 0, .int .u64 0] 80)).alloc (.cells #[.int .u64 0, .int .u64 0, .int .u64 0, .int .u64 0, .int .u64 0] 80)).alloc (.cells #[.int .u64 0, .int .u64 0, .int .u64 0, .int .u64 0, .int .u64 0] 80)).alloc (.cells #[.int .u64 0, .int .u64 0, .int .u64 0, .int .u64 0, .int .u64 0] 80)) n w1.heap.size f := by
  have hy := clamp_bytes (z := z) h
  have hb' : Below n w (((w1.setCell ⟨n, 0, none⟩ (.int .u8 (f 0 / 8 * 8))).setCell ⟨n, 31, none⟩ (.int .u8 z)).setCell ⟨n, 31, none⟩ (.int .u8 (f 31 % 64 + 64))) := ((hb.setCell (Nat.le_refl _) _).setCell (Nat.le_refl _) _).setCell (Nat.le_refl _) _
  have hsz : (((w1.setCell ⟨n, 0, none⟩ (.int .u8 (f 0 / 8 * 8))).setCell ⟨n, 31, none⟩ (.int .u8 z)).setCell ⟨n, 31, none⟩ (.int .u8 (f 31 % 64 + 64))).heap.size = w1.heap.size := by simp [World.setCell]
  generalize ((w1.setCell ⟨n, 0, none⟩ (.int .u8 (f 0 / 8 * 8))).setCell ⟨n, 31, none⟩ (.int .u8 z)).setCell ⟨n, 31, none⟩ (.int .u8 (f 31 % 64 + 64)) = W at *
  rw [← hsz] at hn ⊢
  have s1 : ∀ (v : World) (ob : Obj), (v.alloc ob).heap.size = v.heap.size + 1 := fun v ob => by simp
  refine ⟨?_, ?_, ?_, ?_, ?_, ?_, ?_, ?_, ?_, ?_⟩
  · exact (((((((hb'.alloc (by omega) _).alloc (by simp only [s1]; omega) _).alloc (by simp only [s1]; omega) _).alloc (by simp only [s1]; omega) _).alloc (by simp only [s1]; omega) _).alloc (by simp only [s1]; omega) _).alloc (by simp only [s1]; omega) _)
  · have hall : Below W.heap.size W (((((((W.alloc (.cells #[.int .u64 0, .int .u64 0, .int .u64 0, .int .u64 0, .int .u64 0] 80)).alloc (.cells #[.int .u64 0, .int .u64 0, .int .u64 0, .int .u64 0, .int .u64 0] 80)).alloc (.cells #[.int .u64 0, .int .u64 0, .int .u64 0, .int .u64 0, .int .u64 0] 80)).alloc (.cells #[.int .u64 0, .int .u64 0, .int .u64 0, .int .u64 0, .int .u64 0] 80)).alloc (.cells #[.int .u64 0, .int .u64 0, .int .u64 0, .int .u64 0, .int .u64 0] 80)).alloc (.cells #[.int .u64 0, .int .u64 0, .int .u64 0, .int .u64 0, .int .u64 0] 80)).alloc (.cells #[.int .u64 0, .int .u64 0, .int .u64 0, .int .u64 0, .int .u64 0] 80)) := (((((((Below.refl _ W).alloc (Nat.le_refl _) _).alloc (by simp only [s1]; omega) _).alloc (by simp only [s1]; omega) _).alloc (by simp only [s1]; omega) _).alloc (by simp only [s1]; omega) _).alloc (by simp only [s1]; omega) _).alloc (by simp only [s1]; omega) _
    exact hy.below hall hn
  · have h := (((((((e5_new W).alloc (.cells #[.int .u64 0, .int .u64 0, .int .u64 0, .int .u64 0, .int .u64 0] 80)).alloc (.cells #[.int .u64 0, .int .u64 0, .int .u64 0, .int .u64 0, .int .u64 0] 80)).alloc (.cells #[.int .u64 0, .int .u64 0, .int .u64 0, .int .u64 0, .int .u64 0] 80)).alloc (.cells #[.int .u64 0, .int .u64 0, .int .u64 0, .int .u64 0, .int .u64 0] 80)).alloc (.cells #[.int .u64 0, .int .u64 0, .int .u64 0, .int .u64 0, .int .u64 0] 80)).alloc (.cells #[.int .u64 0, .int .u64 0, .int .u64 0, .int .u64 0, .int .u64 0] 80))
    exact h
  · have h := ((((((e5_new (W.alloc (.cells #[.int .u64 0, .int .u64 0, .int .u64 0, .int .u64 0, .int .u64 0] 80))).alloc (.cells #[.int .u64 0, .int .u64 0, .int .u64 0, .int .u64 0, .int .u64 0] 80)).alloc (.cells #[.int .u64 0, .int .u64 0, .int .u64 0, .int .u64 0, .int .u64 0] 80)).alloc (.cells #[.int .u64 0, .int .u64 0, .int .u64 0, .int .u64 0, .int .u64 0] 80)).alloc (.cells #[.int .u64 0, .int .u64 0, .int .u64 0, .int .u64 0, .int .u64 0] 80)).alloc (.cells #[.int .u64 0, .int .u64 0, .int .u64 0, .int .u64 0, .int .u64 0] 80))
    simp only [s1] at h
    exact h
  · have h := (((((e5_new ((W.alloc (.cells #[.int .u64 0, .int .u64 0, .int .u64 0, .int .u64 0, .int .u64 0] 80)).alloc (.cells #[.int .u64 0, .int .u64 0, .int .u64 0, .int .u64 0, .int .u64 0] 80))).alloc (.cells #[.int .u64 0, .int .u64 0, .int .u64 0, .int .u64 0, .int .u64 0] 80)).alloc (.cells #[.int .u64 0, .int .u64 0, .int .u64 0, .int .u64 0, .int .u64 0] 80)).alloc (.cells #[.int .u64 0, .int .u64 0, .int .u64 0, .int .u64 0, .int .u64 0] 80)).alloc (.cells #[.int .u64 0, .int .u64 0, .int .u64 0, .int .u64 0, .int .u64 0] 80))
    simp only [s1] at h
    exact h
  · have h := ((((e5_new (((W.alloc (.cells #[.int .u64 0, .int .u64 0, .int .u64 0, .int .u64 0, .int .u64 0] 80)).alloc (.cells #[.int .u64 0, .int .u64 0, .int .u64 0, .int .u64 0, .int .u64 0] 80)).alloc (.cells #[.int .u64 0, .int .u64 0, .int .u64 0, .int .u64 0, .int .u64 0] 80))).alloc (.cells #[.int .u64 0, .int .u64 0, .int .u64 0, .int .u64 0, .int .u64 0] 80)).alloc (.cells #[.int .u64 0, .int .u64 0, .int .u64 0, .int .u64 0, .int .u64 0] 80)).alloc (.cells #[.int .u64 0, .int .u64 0, .int .u64 0, .int .u64 0, .int .u64 0] 80))
    simp only [s1] at h
    exact h
  · have h := (((e5_new ((((W.alloc (.cells #[.int .u64 0, .int .u64 0, .int .u64 0, .int .u64 0, .int .u64 0] 80)).alloc (.cells #[.int .u64 0, .int .u64 0, .int .u64 0, .int .u64 0, .int .u64 0] 80)).alloc (.cells #[.int .u64 0, .int .u64 0, .int .u64 0, .int .u64 0, .int .u64 0] 80)).alloc (.cells #[.int .u64 0, .int .u64 0, .int .u64 0, .int .u64 0, .int .u64 0] 80))).alloc (.cells #[.int .u64 0, .int .u64 0, .int .u64 0, .int .u64 0, .int .u64 0] 80)).alloc (.cells #[.int .u64 0, .int .u64 0, .int .u64 0, .int .u64 0, .int .u64 0] 80))
    simp only [s1] at h
    exact h
  · have h := ((e5_new (((((W.alloc (.cells #[.int .u64 0, .int .u64 0, .int .u64 0, .int .u64 0, .int .u64 0] 80)).alloc (.cells #[.int .u64 0, .int .u64 0, .int .u64 0, .int .u64 0, .int .u64 0] 80)).alloc (.cells #[.int .u64 0, .int .u64 0, .int .u64 0, .int .u64 0, .int .u64 0] 80)).alloc (.cells #[.int .u64 0, .int .u64 0, .int .u64 0, .int .u64 0, .int .u64 0] 80)).alloc (.cells #[.int .u64 0, .int .u64 0, .int .u64 0, .int .u64 0, .int .u64 0] 80))).alloc (.cells #[.int .u64 0, .int .u64 0, .int .u64 0, .int .u64 0, .int .u64 0] 80))
    simp only [s1] at h
    exact h
  · have h := (e5_new ((((((W.alloc (.cells #[.int .u64 0, .int .u64 0, .int .u64 0, .int .u64 0, .int .u64 0] 80)).alloc (.cells #[.int .u64 0, .int .u64 0, .int .u64 0, .int .u64 0, .int .u64 0] 80)).alloc (.cells #[.int .u64 0, .int .u64 0, .int .u64 0, .int .u64 0, .int .u64 0] 80)).alloc (.cells #[.int .u64 0, .int .u64 0, .int .u64 0, .int .u64 0, .int .u64 0] 80)).alloc (.cells #[.int .u64 0, .int .u64 0, .int .u64 0, .int .u64 0, .int .u64 0] 80)).alloc (.cells #[.int .u64 0, .int .u64 0, .int .u64 0, .int .u64 0, .int .u64 0] 80)))
    simp only [s1] at h
    exact h
  · simp only [s1]; omega
set_option maxRecDepth 100000 in
set_option maxHeartbeats 4000000 in
theorem ladder_any (bd bs os bp op cs cp : Nat) (f g : Nat → Int) (cur : List Value) (w : World) (hd : w.heap[bd]? = some (.cells cur.toArray 22 (0, 0))) (hcur : cur.length = 32)
    (hs : Bytes w bs os 32 f) (hf : Byt f) (hp : Bytes w bp op 32 g) (hg : Byt g) (h1 : One5 w) (hcp : 32 ≤ cp) :
    Calls Tryd.prog 50 #[.slice (some ⟨bd, 0, none⟩) 32 32, .slice (some ⟨bs, os, none⟩) 32 cs, .slice (some ⟨bp, op, none⟩) 32 cp] w (Ladder w bd (leN g 32 0 % 57896044618658097711785492504343953926634992332820282019728792003956564819968) (kb f)) := by
  have HD : Hid (w.heap[bd]? = some (.cells cur.toArray 22 (0, 0)) ∧ cur.length = 32) := hid ⟨hd, hcur⟩
  have HS : Hid (Bytes w bs os 32 f ∧ Byt f) := hid ⟨hs, hf⟩
  have HP : Hid (Bytes w bp op 32 g ∧ Byt g) := hid ⟨hp, hg⟩
  have H1 : Hid (One5 w) := hid h1
  have b0 := hf 0
  have b31 := hf 31
  obtain ⟨y0, e0⟩ : ∃ y, f 0 = y := ⟨_, rfl⟩
  obtain ⟨y1, e1⟩ : ∃ y, f 31 = y := ⟨_, rfl⟩
  rw [e0] at b0
  rw [e1] at b31
  obtain ⟨b0, b0'⟩ := b0
  obtain ⟨b31, b31'⟩ := b31
  have E0 : Hid (f 0 = y0) := hid e0
  have E1 : Hid (f 31 = y1) := hid e1
  have A0 := and248 y0 b0 b0'
  have A1 := and127 y1 b31 b31'
  have A2 := or64 (y1 % 128) (by omega) (by omega)
  clear hd hcur hs hf hp hg h1 e0 e1
  go_enter Tryd.func50, Tryd.ntmps50
  go_wp2_with fail
  go_still_tail 3, (by kernel_rfl)
  change wpList _ _ _ _ _ (World.drew _)
  generalize hW : World.drew _ = W
  refine copy_in rfl _ _ rfl w.heap.size bs os 32 cs W w (List.replicate 32 (.int .u8 0)) f rfl rfl (by rw [← hW]; exact heap_alloc_new w _) (by simp) ?_ w.heap.size ?_ (Nat.le_refl _) ?_
  · rw [← hW]
    exact HS.out.1.below (((Below.refl _ _).alloc (Nat.le_refl _) _).drew) (World.block_lt_of_cell? _ _ (HS.out.1 0 (by decide)))
  · rw [← hW]; exact ((Below.refl _ _).alloc (Nat.le_refl _) _).drew
  clear hW W
  intro w1 harr hbel
  have c0 : w1.cell? ⟨w.heap.size, 0, none⟩ = some (.int .u8 y0) := by rw [← E0.out]; exact harr.out.bytes 0 (by decide)
  have c31 : w1.cell? ⟨w.heap.size, 31, none⟩ = some (.int .u8 y1) := by rw [← E1.out]; exact harr.out.bytes 31 (by decide)
  have f0 := harr.out.frozen 0
  have f31 := harr.out.frozen 31
  have BL : Hid (Below w.heap.size w w1) := hid hbel
  clear hbel
  go_wp2_with fail
  have hnlt : w.heap.size < w1.heap.size := World.block_lt_of_cell? _ _ c0
  have LS := lstart_mk (z := y1 % 128) harr.out BL.out hnlt
  rw [E0.out, E1.out] at LS
  generalize hGW : (((((((((w1.setCell ⟨w.heap.size, 0, none⟩ (.int .u8 (y0 / 8 * 8))).setCell ⟨w.heap.size, 31, none⟩ (.int .u8 (y1 % 128))).setCell ⟨w.heap.size, 31, none⟩ (.int .u8 (y1 % 64 + 64))).alloc (.cells #[.int .u64 0, .int .u64 0, .int .u64 0, .int .u64 0, .int .u64 0] 80)).alloc (.cells #[.int .u64 0, .int .u64 0, .int .u64 0, .int .u64 0, .int .u64 0] 80)).alloc (.cells #[.int .u64 0, .int .u64 0, .int .u64 0, .int .u64 0, .int .u64 0] 80)).alloc (.cells #[.int .u64 0, .int .u64 0, .int .u64 0, .int .u64 0, .int .u64 0] 80)).alloc (.cells #[.int .u64 0, .int .u64 0, .int .u64 0, .int .u64 0, .int .u64 0] 80)).alloc (.cells #[.int .u64 0, .int .u64 0, .int .u64 0, .int .u64 0, .int .u64 0] 80)).alloc (.cells #[.int .u64 0, .int .u64 0, .int .u64 0, .int .u64 0, .int .u64 0] 80) = W0 at LS ⊢
  generalize w1.heap.size = N at LS hnlt ⊢
  clear hGW harr c0 c31 f0 f31 BL A0 A1 A2 E0 E1 b0 b0' b31 b31'
  have hnn : w.heap.size < N := hnlt
  clear hnlt
  have X1 : Hid (E5 W0 N 0 0) := hid LS.e0
  have X2 : Hid (E5 W0 (N + 1) 0 0) := hid LS.e1
  have Z2 : Hid (E5 W0 (N + 2) 0 0) := hid LS.e2
  have X3 : Hid (E5 W0 (N + 3) 0 0) := hid LS.e3
  have Z3 : Hid (E5 W0 (N + 4) 0 0) := hid LS.e4
  have T0 : Hid (Room W0 (N + 5) 0) := hid LS.e5.room
  have T1 : Hid (Room W0 (N + 6) 0) := hid LS.e6.room
  have BY : Hid (Bytes W0 w.heap.size 0 32 (cl f)) := hid LS.by0
  have BL : Hid (Below w.heap.size w W0) := hid LS.bel
  have SZ : Hid (N + 7 ≤ W0.heap.size) := hid LS.size
  clear LS
  have lp : bp < w.heap.size := World.block_lt_of_cell? _ _ (HP.out.1 0 (by decide))
  refine (SetBytes_any N 0 bp op cp g _ X1.out.room (HP.out.1.below BL.out lp) HP.out.2 hcp (by omega)).mono ?_
  rintro e w2 ⟨rfl, hE, hU⟩
  replace X2 := hid (X2.out.keep hU (Or.inl (by omega)))
  replace Z2 := hid (Z2.out.keep hU (Or.inl (by omega)))
  replace X3 := hid (X3.out.keep hU (Or.inl (by omega)))
  replace Z3 := hid (Z3.out.keep hU (Or.inl (by omega)))
  replace T0 := hid (T0.out.keep hU (Or.inl (by omega)))
  replace T1 := hid (T1.out.keep hU (Or.inl (by omega)))
  replace X1 := hid hE
  replace BY := hid (BY.out.keep hU (by omega))
  replace BL : Hid (Below w.heap.size w w2) := hid (BL.out.trans (hU.below (by omega) (by have := SZ.out; omega)))
  replace SZ : Hid (N + 7 ≤ w2.heap.size) := hid (Nat.le_trans SZ.out hU.size)
  clear hE hU
  go_wp2_with fail
  refine (One_any (N + 1) 0 _ (H1.out.below BL.out) X2.out.room).mono ?_
  rintro e w3 ⟨rfl, hE, hU⟩
  replace X1 := hid (X1.out.keep hU (Or.inl (by omega)))
  replace Z2 := hid (Z2.out.keep hU (Or.inl (by omega)))
  replace X3 := hid (X3.out.keep hU (Or.inl (by omega)))
  replace Z3 := hid (Z3.out.keep hU (Or.inl (by omega)))
  replace T0 := hid (T0.out.keep hU (Or.inl (by omega)))
  replace T1 := hid (T1.out.keep hU (Or.inl (by omega)))
  replace X2 := hid hE
  replace BY := hid (BY.out.keep hU (by omega))
  replace BL : Hid (Below w.heap.size w w3) := hid (BL.out.trans (hU.below (by omega) (by have := SZ.out; omega)))
  replace SZ : Hid (N + 7 ≤ w3.heap.size) := hid (Nat.le_trans SZ.out hU.size)
  clear hE hU
  go_wp2_with fail
  refine (Set_any (N + 3) 0 N 0 _ _ X1.out X3.out.room).mono ?_
  rintro e w4 ⟨rfl, hE, hU⟩
  replace X1 := hid (X1.out.keep hU (Or.inl (by omega)))
  replace X2 := hid (X2.out.keep hU (Or.inl (by omega)))
  replace Z2 := hid (Z2.out.keep hU (Or.inl (by omega)))
  replace Z3 := hid (Z3.out.keep hU (Or.inl (by omega)))
  replace T0 := hid (T0.out.keep hU (Or.inl (by omega)))
  replace T1 := hid (T1.out.keep hU (Or.inl (by omega)))
  replace X3 := hid hE
  replace BY := hid (BY.out.keep hU (by omega))
  replace BL : Hid (Below w.heap.size w w4) := hid (BL.out.trans (hU.below (by omega) (by have := SZ.out; omega)))
  replace SZ : Hid (N + 7 ≤ w4.heap.size) := hid (Nat.le_trans SZ.out hU.size)
  clear hE hU
  go_wp2_with fail
  refine (One_any (N + 4) 0 _ (H1.out.below BL.out) Z3.out.room).mono ?_
  rintro e w5 ⟨rfl, hE, hU⟩
  replace X1 := hid (X1.out.keep hU (Or.inl (by omega)))
  replace X2 := hid (X2.out.keep hU (Or.inl (by omega)))
  replace Z2 := hid (Z2.out.keep hU (Or.inl (by omega)))
  replace X3 := hid (X3.out.keep hU (Or.inl (by omega)))
  replace T0 := hid (T0.out.keep hU (Or.inl (by omega)))
  replace T1 := hid (T1.out.keep hU (Or.inl (by omega)))
  replace Z3 := hid hE
  replace BY := hid (BY.out.keep hU (by omega))
  replace BL : Hid (Below w.heap.size w w5) := hid (BL.out.trans (hU.below (by omega) (by have := SZ.out; omega)))
  replace SZ : Hid (N + 7 ≤ w5.heap.size) := hid (Nat.le_trans SZ.out hU.size)
  clear hE hU
  go_wp2_with fail
  go_loopw [14, 15] (fun sw pos wr => ∃ j, LInv w w.heap.size N f (leN g 32 0 % 57896044618658097711785492504343953926634992332820282019728792003956564819968) sw pos wr j) (fun _ pos _ => (intOf pos + 1).toNat)
  case atStart => exact ⟨0, by omega, rfl, rfl, X1.out, X2.out, Z2.out, X3.out, Z3.out, T0.out, T1.out, BY.out, BL.out, SZ.out⟩
  case round =>
    clear X1 X2 Z2 X3 Z3 T0 T1 BY BL SZ
    obtain ⟨j, hI⟩ := hrel
    have hj := hI.le
    have hps := hI.pos
    have hsw := hI.sw
    subst hps hsw
    have I : Hid (LInv w w.heap.size N f (leN g 32 0 % 57896044618658097711785492504343953926634992332820282019728792003956564819968) (.int .i64 (bi (pst (leN g 32 0 % 57896044618658097711785492504343953926634992332820282019728792003956564819968) (kb f) j).2)) (.int .i64 (254 - (j : Int))) wr j) := hid hI
    clear hI
    have X1 := hid I.out.x1
    have X2 := hid I.out.x2
    have Z2 := hid I.out.z2
    have X3 := hid I.out.x3
    have Z3 := hid I.out.z3
    have T0 := hid I.out.t0
    have T1 := hid I.out.t1
    have BY := hid I.out.by0
    have BL := hid I.out.bel
    have SZ := hid I.out.size
    clear I
    generalize hU0 : leN g 32 0 % 57896044618658097711785492504343953926634992332820282019728792003956564819968 = U0 at X1 X2 Z2 X3 Z3 ⊢
    have HU0 : Hid (leN g 32 0 % 57896044618658097711785492504343953926634992332820282019728792003956564819968 = U0) := hid hU0
    clear hU0
    obtain ⟨s, hs⟩ : ∃ s, (pst U0 (kb f) j).2 = s := ⟨_, rfl⟩
    have HSS : Hid ((pst U0 (kb f) j).2 = s) := hid hs
    rw [hs]
    clear hs
    have slo := bi_lo s
    have shi := bi_hi s
    by_cases hlt : j < 255
    · obtain ⟨t, ht⟩ : ∃ t : Nat, t = 254 - j := ⟨_, rfl⟩
      have ht' : (254 - (j : Int)) = (t : Int) := by omega
      have HT : Hid (t = 254 - j) := hid ht
      have htl : t ≤ 254 := by omega
      rw [ht']
      clear ht ht'
      have hy := (cl_byt HS.out.2 (t / 8))
      have hc : wr.cell? ⟨w.heap.size, t / 8, none⟩ = some (.int .u8 (cl f (t / 8))) := by have := BY.out (t / 8) (by omega); rwa [Nat.zero_add] at this
      have hk := kb_bit HS.out.2 t
      obtain ⟨y, ey⟩ : ∃ y, cl f (t / 8) = y := ⟨_, rfl⟩
      rw [ey] at hy hc hk
      obtain ⟨y0, y1⟩ := hy
      clear ey
      obtain ⟨b, eb⟩ : ∃ b, kb f t = b := ⟨_, rfl⟩
      rw [eb] at hk
      have HBB : Hid (kb f t = b) := hid eb
      have blo := bi_lo b
      have bhi := bi_hi b
      have hx := bi_xor s b
      have hand := and7 t htl
      clear eb
      go_wp2_with fail
      refine (Swap_any (s != b) (N + 1) 0 (N + 3) 0 _ _ _ X2.out X3.out (by omega)).mono ?_
      rintro e v1 ⟨rfl, hE1, hE2, hU⟩
      replace X1 := hid (X1.out.keep2 hU (by omega) (by omega))
      replace Z2 := hid (Z2.out.keep2 hU (by omega) (by omega))
      replace Z3 := hid (Z3.out.keep2 hU (by omega) (by omega))
      replace T0 := hid (T0.out.keep2 hU (by omega) (by omega))
      replace T1 := hid (T1.out.keep2 hU (by omega) (by omega))
      replace X2 := hid hE1
      replace X3 := hid hE2
      replace BY := hid (BY.out.keep2 hU (by omega) (by omega))
      replace BL : Hid (Below w.heap.size w v1) := hid (BL.out.trans (hU.below (by omega) (by omega) (by have := SZ.out; omega)))
      replace SZ : Hid (N + 7 ≤ v1.heap.size) := hid (Nat.le_trans SZ.out hU.size)
      clear hE1 hE2 hU
      go_wp2_with fail
      refine (Swap_any (s != b) (N + 2) 0 (N + 4) 0 _ _ _ Z2.out Z3.out (by omega)).mono ?_
      rintro e v2 ⟨rfl, hE1, hE2, hU⟩
      replace X1 := hid (X1.out.keep2 hU (by omega) (by omega))
      replace X2 := hid (X2.out.keep2 hU (by omega) (by omega))
      replace X3 := hid (X3.out.keep2 hU (by omega) (by omega))
      replace T0 := hid (T0.out.keep2 hU (by omega) (by omega))
      replace T1 := hid (T1.out.keep2 hU (by omega) (by omega))
      replace Z2 := hid hE1
      replace Z3 := hid hE2
      replace BY := hid (BY.out.keep2 hU (by omega) (by omega))
      replace BL : Hid (Below w.heap.size w v2) := hid (BL.out.trans (hU.below (by omega) (by omega) (by have := SZ.out; omega)))
      replace SZ : Hid (N + 7 ≤ v2.heap.size) := hid (Nat.le_trans SZ.out hU.size)
      clear hE1 hE2 hU
      go_wp2_with fail
      refine (Subtract_any (N + 5) 0 (N + 3) 0 (N + 4) 0 _ _ _ X3.out Z3.out T0.out (Or.inr (Or.inl (by omega))) (Or.inr (Or.inl (by omega)))).mono ?_
      rintro e v3 ⟨rfl, hE, hU⟩
      replace X1 := hid (X1.out.keep hU (Or.inl (by omega)))
      replace X2 := hid (X2.out.keep hU (Or.inl (by omega)))
      replace Z2 := hid (Z2.out.keep hU (Or.inl (by omega)))
      replace X3 := hid (X3.out.keep hU (Or.inl (by omega)))
      replace Z3 := hid (Z3.out.keep hU (Or.inl (by omega)))
      replace T1 := hid (T1.out.keep hU (Or.inl (by omega)))
      replace T0 := hid hE
      replace BY := hid (BY.out.keep hU (by omega))
      replace BL : Hid (Below w.heap.size w v3) := hid (BL.out.trans (hU.below (by omega) (by have := SZ.out; omega)))
      replace SZ : Hid (N + 7 ≤ v3.heap.size) := hid (Nat.le_trans SZ.out hU.size)
      clear hE hU
      go_wp2_with fail
      refine (Subtract_any (N + 6) 0 (N + 1) 0 (N + 2) 0 _ _ _ X2.out Z2.out T1.out (Or.inr (Or.inl (by omega))) (Or.inr (Or.inl (by omega)))).mono ?_
      rintro e v4 ⟨rfl, hE, hU⟩
      replace X1 := hid (X1.out.keep hU (Or.inl (by omega)))
      replace X2 := hid (X2.out.keep hU (Or.inl (by omega)))
      replace Z2 := hid (Z2.out.keep hU (Or.inl (by omega)))
      replace X3 := hid (X3.out.keep hU (Or.inl (by omega)))
      replace Z3 := hid (Z3.out.keep hU (Or.inl (by omega)))
      replace T0 := hid (T0.out.keep hU (Or.inl (by omega)))
      replace T1 := hid hE
      replace BY := hid (BY.out.keep hU (by omega))
      replace BL : Hid (Below w.heap.size w v4) := hid (BL.out.trans (hU.below (by omega) (by have := SZ.out; omega)))
      replace SZ : Hid (N + 7 ≤ v4.heap.size) := hid (Nat.le_trans SZ.out hU.size)
      clear hE hU
      go_wp2_with fail
      refine (Add_any (N + 1) 0 (N + 1) 0 (N + 2) 0 _ _ _ X2.out Z2.out X2.out.room (Or.inl ⟨rfl, rfl⟩) (Or.inr (Or.inl (by omega)))).mono ?_
      rintro e v5 ⟨rfl, hE, hU⟩
      replace X1 := hid (X1.out.keep hU (Or.inl (by omega)))
      replace Z2 := hid (Z2.out.keep hU (Or.inl (by omega)))
      replace X3 := hid (X3.out.keep hU (Or.inl (by omega)))
      replace Z3 := hid (Z3.out.keep hU (Or.inl (by omega)))
      replace T0 := hid (T0.out.keep hU (Or.inl (by omega)))
      replace T1 := hid (T1.out.keep hU (Or.inl (by omega)))
      replace X2 := hid hE
      replace BY := hid (BY.out.keep hU (by omega))
      replace BL : Hid (Below w.heap.size w v5) := hid (BL.out.trans (hU.below (by omega) (by have := SZ.out; omega)))
      replace SZ : Hid (N + 7 ≤ v5.heap.size) := hid (Nat.le_trans SZ.out hU.size)
      clear hE hU
      go_wp2_with fail
      refine (Add_any (N + 2) 0 (N + 3) 0 (N + 4) 0 _ _ _ X3.out Z3.out Z2.out.room (Or.inr (Or.inl (by omega))) (Or.inr (Or.inl (by omega)))).mono ?_
      rintro e v6 ⟨rfl, hE, hU⟩
      replace X1 := hid (X1.out.keep hU (Or.inl (by omega)))
      replace X2 := hid (X2.out.keep hU (Or.inl (by omega)))
      replace X3 := hid (X3.out.keep hU (Or.inl (by omega)))
      replace Z3 := hid (Z3.out.keep hU (Or.inl (by omega)))
      replace T0 := hid (T0.out.keep hU (Or.inl (by omega)))
      replace T1 := hid (T1.out.keep hU (Or.inl (by omega)))
      replace Z2 := hid hE
      replace BY := hid (BY.out.keep hU (by omega))
      replace BL : Hid (Below w.heap.size w v6) := hid (BL.out.trans (hU.below (by omega) (by have := SZ.out; omega)))
      replace SZ : Hid (N + 7 ≤ v6.heap.size) := hid (Nat.le_trans SZ.out hU.size)
      clear hE hU
      go_wp2_with fail
      refine (Multiply_any (N + 4) 0 (N + 5) 0 (N + 1) 0 _ _ _ T0.out X2.out Z3.out.room).mono ?_
      rintro e v7 ⟨rfl, hE, hU⟩
      replace X1 := hid (X1.out.keep hU (Or.inl (by omega)))
      replace X2 := hid (X2.out.keep hU (Or.inl (by omega)))
      replace Z2 := hid (Z2.out.keep hU (Or.inl (by omega)))
      replace X3 := hid (X3.out.keep hU (Or.inl (by omega)))
      replace T0 := hid (T0.out.keep hU (Or.inl (by omega)))
      replace T1 := hid (T1.out.keep hU (Or.inl (by omega)))
      replace Z3 := hid hE
      replace BY := hid (BY.out.keep hU (by omega))
      replace BL : Hid (Below w.heap.size w v7) := hid (BL.out.trans (hU.below (by omega) (by have := SZ.out; omega)))
      replace SZ : Hid (N + 7 ≤ v7.heap.size) := hid (Nat.le_trans SZ.out hU.size)
      clear hE hU
      go_wp2_with fail
      refine (Multiply_any (N + 2) 0 (N + 2) 0 (N + 6) 0 _ _ _ Z2.out T1.out Z2.out.room).mono ?_
      rintro e v8 ⟨rfl, hE, hU⟩
      replace X1 := hid (X1.out.keep hU (Or.inl (by omega)))
      replace X2 := hid (X2.out.keep hU (Or.inl (by omega)))
      replace X3 := hid (X3.out.keep hU (Or.inl (by omega)))
      replace Z3 := hid (Z3.out.keep hU (Or.inl (by omega)))
      replace T0 := hid (T0.out.keep hU (Or.inl (by omega)))
      replace T1 := hid (T1.out.keep hU (Or.inl (by omega)))
      replace Z2 := hid hE
      replace BY := hid (BY.out.keep hU (by omega))
      replace BL : Hid (Below w.heap.size w v8) := hid (BL.out.trans (hU.below (by omega) (by have := SZ.out; omega)))
      replace SZ : Hid (N + 7 ≤ v8.heap.size) := hid (Nat.le_trans SZ.out hU.size)
      clear hE hU
      go_wp2_with fail
      refine (Square_any (N + 5) 0 (N + 6) 0 _ _ T1.out T0.out.room).mono ?_
      rintro e v9 ⟨rfl, hE, hU⟩
      replace X1 := hid (X1.out.keep hU (Or.inl (by omega)))
      replace X2 := hid (X2.out.keep hU (Or.inl (by omega)))
      replace Z2 := hid (Z2.out.keep hU (Or.inl (by omega)))
      replace X3 := hid (X3.out.keep hU (Or.inl (by omega)))
      replace Z3 := hid (Z3.out.keep hU (Or.inl (by omega)))
      replace T1 := hid (T1.out.keep hU (Or.inl (by omega)))
      replace T0 := hid hE
      replace BY := hid (BY.out.keep hU (by omega))
      replace BL : Hid (Below w.heap.size w v9) := hid (BL.out.trans (hU.below (by omega) (by have := SZ.out; omega)))
      replace SZ : Hid (N + 7 ≤ v9.heap.size) := hid (Nat.le_trans SZ.out hU.size)
      clear hE hU
      go_wp2_with fail
      refine (Square_any (N + 6) 0 (N + 1) 0 _ _ X2.out T1.out.room).mono ?_
      rintro e v10 ⟨rfl, hE, hU⟩
      replace X1 := hid (X1.out.keep hU (Or.inl (by omega)))
      replace X2 := hid (X2.out.keep hU (Or.inl (by omega)))
      replace Z2 := hid (Z2.out.keep hU (Or.inl (by omega)))
      replace X3 := hid (X3.out.keep hU (Or.inl (by omega)))
      replace Z3 := hid (Z3.out.keep hU (Or.inl (by omega)))
      replace T0 := hid (T0.out.keep hU (Or.inl (by omega)))
      replace T1 := hid hE
      replace BY := hid (BY.out.keep hU (by omega))
      replace BL : Hid (Below w.heap.size w v10) := hid (BL.out.trans (hU.below (by omega) (by have := SZ.out; omega)))
      replace SZ : Hid (N + 7 ≤ v10.heap.size) := hid (Nat.le_trans SZ.out hU.size)
      clear hE hU
      go_wp2_with fail
      refine (Add_any (N + 3) 0 (N + 4) 0 (N + 2) 0 _ _ _ Z3.out Z2.out X3.out.room (Or.inr (Or.inl (by omega))) (Or.inr (Or.inl (by omega)))).mono ?_
      rintro e v11 ⟨rfl, hE, hU⟩
      replace X1 := hid (X1.out.keep hU (Or.inl (by omega)))
      replace X2 := hid (X2.out.keep hU (Or.inl (by omega)))
      replace Z2 := hid (Z2.out.keep hU (Or.inl (by omega)))
      replace Z3 := hid (Z3.out.keep hU (Or.inl (by omega)))
      replace T0 := hid (T0.out.keep hU (Or.inl (by omega)))
      replace T1 := hid (T1.out.keep hU (Or.inl (by omega)))
      replace X3 := hid hE
      replace BY := hid (BY.out.keep hU (by omega))
      replace BL : Hid (Below w.heap.size w v11) := hid (BL.out.trans (hU.below (by omega) (by have := SZ.out; omega)))
      replace SZ : Hid (N + 7 ≤ v11.heap.size) := hid (Nat.le_trans SZ.out hU.size)
      clear hE hU
      go_wp2_with fail
      refine (Subtract_any (N + 2) 0 (N + 4) 0 (N + 2) 0 _ _ _ Z3.out Z2.out Z2.out.room (Or.inr (Or.inl (by omega))) (Or.inl ⟨rfl, rfl⟩)).mono ?_
      rintro e v12 ⟨rfl, hE, hU⟩
      replace X1 := hid (X1.out.keep hU (Or.inl (by omega)))
      replace X2 := hid (X2.out.keep hU (Or.inl (by omega)))
      replace X3 := hid (X3.out.keep hU (Or.inl (by omega)))
      replace Z3 := hid (Z3.out.keep hU (Or.inl (by omega)))
      replace T0 := hid (T0.out.keep hU (Or.inl (by omega)))
      replace T1 := hid (T1.out.keep hU (Or.inl (by omega)))
      replace Z2 := hid hE
      replace BY := hid (BY.out.keep hU (by omega))
      replace BL : Hid (Below w.heap.size w v12) := hid (BL.out.trans (hU.below (by omega) (by have := SZ.out; omega)))
      replace SZ : Hid (N + 7 ≤ v12.heap.size) := hid (Nat.le_trans SZ.out hU.size)
      clear hE hU
      go_wp2_with fail
      refine (Multiply_any (N + 1) 0 (N + 6) 0 (N + 5) 0 _ _ _ T1.out T0.out X2.out.room).mono ?_
      rintro e v13 ⟨rfl, hE, hU⟩
      replace X1 := hid (X1.out.keep hU (Or.inl (by omega)))
      replace Z2 := hid (Z2.out.keep hU (Or.inl (by omega)))
      replace X3 := hid (X3.out.keep hU (Or.inl (by omega)))
      replace Z3 := hid (Z3.out.keep hU (Or.inl (by omega)))
      replace T0 := hid (T0.out.keep hU (Or.inl (by omega)))
      replace T1 := hid (T1.out.keep hU (Or.inl (by omega)))
      replace X2 := hid hE
      replace BY := hid (BY.out.keep hU (by omega))
      replace BL : Hid (Below w.heap.size w v13) := hid (BL.out.trans (hU.below (by omega) (by have := SZ.out; omega)))
      replace SZ : Hid (N + 7 ≤ v13.heap.size) := hid (Nat.le_trans SZ.out hU.size)
      clear hE hU
      go_wp2_with fail
      refine (Subtract_any (N + 6) 0 (N + 6) 0 (N + 5) 0 _ _ _ T1.out T0.out T1.out.room (Or.inl ⟨rfl, rfl⟩) (Or.inr (Or.inl (by omega)))).mono ?_
      rintro e v14 ⟨rfl, hE, hU⟩
      replace X1 := hid (X1.out.keep hU (Or.inl (by omega)))
      replace X2 := hid (X2.out.keep hU (Or.inl (by omega)))
      replace Z2 := hid (Z2.out.keep hU (Or.inl (by omega)))
      replace X3 := hid (X3.out.keep hU (Or.inl (by omega)))
      replace Z3 := hid (Z3.out.keep hU (Or.inl (by omega)))
      replace T0 := hid (T0.out.keep hU (Or.inl (by omega)))
      replace T1 := hid hE
      replace BY := hid (BY.out.keep hU (by omega))
      replace BL : Hid (Below w.heap.size w v14) := hid (BL.out.trans (hU.below (by omega) (by have := SZ.out; omega)))
      replace SZ : Hid (N + 7 ≤ v14.heap.size) := hid (Nat.le_trans SZ.out hU.size)
      clear hE hU
      go_wp2_with fail
      refine (Square_any (N + 2) 0 (N + 2) 0 _ _ Z2.out Z2.out.room).mono ?_
      rintro e v15 ⟨rfl, hE, hU⟩
      replace X1 := hid (X1.out.keep hU (Or.inl (by omega)))
      replace X2 := hid (X2.out.keep hU (Or.inl (by omega)))
      replace X3 := hid (X3.out.keep hU (Or.inl (by omega)))
      replace Z3 := hid (Z3.out.keep hU (Or.inl (by omega)))
      replace T0 := hid (T0.out.keep hU (Or.inl (by omega)))
      replace T1 := hid (T1.out.keep hU (Or.inl (by omega)))
      replace Z2 := hid hE
      replace BY := hid (BY.out.keep hU (by omega))
      replace BL : Hid (Below w.heap.size w v15) := hid (BL.out.trans (hU.below (by omega) (by have := SZ.out; omega)))
      replace SZ : Hid (N + 7 ≤ v15.heap.size) := hid (Nat.le_trans SZ.out hU.size)
      clear hE hU
      go_wp2_with fail
      refine (Mult32_any (N + 4) 0 (N + 6) 0 _ 121666 _ T1.out Z3.out.room (by decide) (by decide)).mono ?_
      rintro e v16 ⟨rfl, hE, hU⟩
      replace X1 := hid (X1.out.keep hU (Or.inl (by omega)))
      replace X2 := hid (X2.out.keep hU (Or.inl (by omega)))
      replace Z2 := hid (Z2.out.keep hU (Or.inl (by omega)))
      replace X3 := hid (X3.out.keep hU (Or.inl (by omega)))
      replace T0 := hid (T0.out.keep hU (Or.inl (by omega)))
      replace T1 := hid (T1.out.keep hU (Or.inl (by omega)))
      replace Z3 := hid hE
      replace BY := hid (BY.out.keep hU (by omega))
      replace BL : Hid (Below w.heap.size w v16) := hid (BL.out.trans (hU.below (by omega) (by have := SZ.out; omega)))
      replace SZ : Hid (N + 7 ≤ v16.heap.size) := hid (Nat.le_trans SZ.out hU.size)
      clear hE hU
      go_wp2_with fail
      refine (Square_any (N + 3) 0 (N + 3) 0 _ _ X3.out X3.out.room).mono ?_
      rintro e v17 ⟨rfl, hE, hU⟩
      replace X1 := hid (X1.out.keep hU (Or.inl (by omega)))
      replace X2 := hid (X2.out.keep hU (Or.inl (by omega)))
      replace Z2 := hid (Z2.out.keep hU (Or.inl (by omega)))
      replace Z3 := hid (Z3.out.keep hU (Or.inl (by omega)))
      replace T0 := hid (T0.out.keep hU (Or.inl (by omega)))
      replace T1 := hid (T1.out.keep hU (Or.inl (by omega)))
      replace X3 := hid hE
      replace BY := hid (BY.out.keep hU (by omega))
      replace BL : Hid (Below w.heap.size w v17) := hid (BL.out.trans (hU.below (by omega) (by have := SZ.out; omega)))
      replace SZ : Hid (N + 7 ≤ v17.heap.size) := hid (Nat.le_trans SZ.out hU.size)
      clear hE hU
      go_wp2_with fail
      refine (Add_any (N + 5) 0 (N + 5) 0 (N + 4) 0 _ _ _ T0.out Z3.out T0.out.room (Or.inl ⟨rfl, rfl⟩) (Or.inr (Or.inl (by omega)))).mono ?_
      rintro e v18 ⟨rfl, hE, hU⟩
      replace X1 := hid (X1.out.keep hU (Or.inl (by omega)))
      replace X2 := hid (X2.out.keep hU (Or.inl (by omega)))
      replace Z2 := hid (Z2.out.keep hU (Or.inl (by omega)))
      replace X3 := hid (X3.out.keep hU (Or.inl (by omega)))
      replace Z3 := hid (Z3.out.keep hU (Or.inl (by omega)))
      replace T1 := hid (T1.out.keep hU (Or.inl (by omega)))
      replace T0 := hid hE
      replace BY := hid (BY.out.keep hU (by omega))
      replace BL : Hid (Below w.heap.size w v18) := hid (BL.out.trans (hU.below (by omega) (by have := SZ.out; omega)))
      replace SZ : Hid (N + 7 ≤ v18.heap.size) := hid (Nat.le_trans SZ.out hU.size)
      clear hE hU
      go_wp2_with fail
      refine (Multiply_any (N + 4) 0 N 0 (N + 2) 0 _ _ _ X1.out Z2.out Z3.out.room).mono ?_
      rintro e v19 ⟨rfl, hE, hU⟩
      replace X1 := hid (X1.out.keep hU (Or.inl (by omega)))
      replace X2 := hid (X2.out.keep hU (Or.inl (by omega)))
      replace Z2 := hid (Z2.out.keep hU (Or.inl (by omega)))
      replace X3 := hid (X3.out.keep hU (Or.inl (by omega)))
      replace T0 := hid (T0.out.keep hU (Or.inl (by omega)))
      replace T1 := hid (T1.out.keep hU (Or.inl (by omega)))
      replace Z3 := hid hE
      replace BY := hid (BY.out.keep hU (by omega))
      replace BL : Hid (Below w.heap.size w v19) := hid (BL.out.trans (hU.below (by omega) (by have := SZ.out; omega)))
      replace SZ : Hid (N + 7 ≤ v19.heap.size) := hid (Nat.le_trans SZ.out hU.size)
      clear hE hU
      go_wp2_with fail
      refine (Multiply_any (N + 2) 0 (N + 6) 0 (N + 5) 0 _ _ _ T1.out T0.out Z2.out.room).mono ?_
      rintro e v20 ⟨rfl, hE, hU⟩
      replace X1 := hid (X1.out.keep hU (Or.inl (by omega)))
      replace X2 := hid (X2.out.keep hU (Or.inl (by omega)))
      replace X3 := hid (X3.out.keep hU (Or.inl (by omega)))
      replace Z3 := hid (Z3.out.keep hU (Or.inl (by omega)))
      replace T0 := hid (T0.out.keep hU (Or.inl (by omega)))
      replace T1 := hid (T1.out.keep hU (Or.inl (by omega)))
      replace Z2 := hid hE
      replace BY := hid (BY.out.keep hU (by omega))
      replace BL : Hid (Below w.heap.size w v20) := hid (BL.out.trans (hU.below (by omega) (by have := SZ.out; omega)))
      replace SZ : Hid (N + 7 ≤ v20.heap.size) := hid (Nat.le_trans SZ.out hU.size)
      clear hE hU
      go_wp2_with fail
      go_roundw
      case rel => exact linv_step HSS.out HT.out HBB.out (by omega) X1.out X2.out Z2.out X3.out Z3.out T0.out.room T1.out.room BY.out BL.out SZ.out
      case measure => simp [intOf]
    · obtain rfl : j = 255 := by omega
      have hneg : (254 - ((255 : Nat) : Int)) < 0 := by decide
      go_wp2_with fail
      refine (Swap_any s (N + 1) 0 (N + 3) 0 _ _ _ X2.out X3.out (by omega)).mono ?_
      rintro e v1 ⟨rfl, hE1, hE2, hU⟩
      replace X1 := hid (X1.out.keep2 hU (by omega) (by omega))
      replace Z2 := hid (Z2.out.keep2 hU (by omega) (by omega))
      replace Z3 := hid (Z3.out.keep2 hU (by omega) (by omega))
      replace T0 := hid (T0.out.keep2 hU (by omega) (by omega))
      replace T1 := hid (T1.out.keep2 hU (by omega) (by omega))
      replace X2 := hid hE1
      replace X3 := hid hE2
      replace BY := hid (BY.out.keep2 hU (by omega) (by omega))
      replace BL : Hid (Below w.heap.size w v1) := hid (BL.out.trans (hU.below (by omega) (by omega) (by have := SZ.out; omega)))
      replace SZ : Hid (N + 7 ≤ v1.heap.size) := hid (Nat.le_trans SZ.out hU.size)
      clear hE1 hE2 hU
      go_wp2_with fail
      refine (Swap_any s (N + 2) 0 (N + 4) 0 _ _ _ Z2.out Z3.out (by omega)).mono ?_
      rintro e v2 ⟨rfl, hE1, hE2, hU⟩
      replace X1 := hid (X1.out.keep2 hU (by omega) (by omega))
      replace X2 := hid (X2.out.keep2 hU (by omega) (by omega))
      replace X3 := hid (X3.out.keep2 hU (by omega) (by omega))
      replace T0 := hid (T0.out.keep2 hU (by omega) (by omega))
      replace T1 := hid (T1.out.keep2 hU (by omega) (by omega))
      replace Z2 := hid hE1
      replace Z3 := hid hE2
      replace BY := hid (BY.out.keep2 hU (by omega) (by omega))
      replace BL : Hid (Below w.heap.size w v2) := hid (BL.out.trans (hU.below (by omega) (by omega) (by have := SZ.out; omega)))
      replace SZ : Hid (N + 7 ≤ v2.heap.size) := hid (Nat.le_trans SZ.out hU.size)
      clear hE1 hE2 hU
      go_wp2_with fail
      refine (Invert_any (N + 2) 0 (N + 2) 0 _ _ Z2.out Z2.out.room).mono ?_
      rintro e v3 ⟨rfl, hE, hU⟩
      replace X1 := hid (X1.out.keep hU (Or.inl (by omega)))
      replace X2 := hid (X2.out.keep hU (Or.inl (by omega)))
      replace X3 := hid (X3.out.keep hU (Or.inl (by omega)))
      replace Z3 := hid (Z3.out.keep hU (Or.inl (by omega)))
      replace T0 := hid (T0.out.keep hU (Or.inl (by omega)))
      replace T1 := hid (T1.out.keep hU (Or.inl (by omega)))
      replace Z2 := hid hE
      replace BY := hid (BY.out.keep hU (by omega))
      replace BL : Hid (Below w.heap.size w v3) := hid (BL.out.trans (hU.below (by omega) (by have := SZ.out; omega)))
      replace SZ : Hid (N + 7 ≤ v3.heap.size) := hid (Nat.le_trans SZ.out hU.size)
      clear hE hU
      go_wp2_with fail
      refine (Multiply_any (N + 1) 0 (N + 1) 0 (N + 2) 0 _ _ _ X2.out Z2.out X2.out.room).mono ?_
      rintro e v4 ⟨rfl, hE, hU⟩
      replace X1 := hid (X1.out.keep hU (Or.inl (by omega)))
      replace Z2 := hid (Z2.out.keep hU (Or.inl (by omega)))
      replace X3 := hid (X3.out.keep hU (Or.inl (by omega)))
      replace Z3 := hid (Z3.out.keep hU (Or.inl (by omega)))
      replace T0 := hid (T0.out.keep hU (Or.inl (by omega)))
      replace T1 := hid (T1.out.keep hU (Or.inl (by omega)))
      replace X2 := hid hE
      replace BY := hid (BY.out.keep hU (by omega))
      replace BL : Hid (Below w.heap.size w v4) := hid (BL.out.trans (hU.below (by omega) (by have := SZ.out; omega)))
      replace SZ : Hid (N + 7 ≤ v4.heap.size) := hid (Nat.le_trans SZ.out hU.size)
      clear hE hU
      go_wp2_with fail
      have PO : Hid (E5 v4 (N + 1) 0 (pout U0 (kb f))) := hid (by have h := X2.out; unfold pout; simp only [HSS.out]; exact h)
      have lbd : bd < w.heap.size := by
        rcases Nat.lt_or_ge bd w.heap.size with h | h
        · exact h
        · have := HD.out.1; rw [Array.getElem?_eq_none h] at this; exact absurd this (by simp)
      clear X1 X2 Z2 X3 Z3 T0 T1 BY HSS
      go_region_law (first
        | (go_simp; go_at_call 72; refine (Bytes_any (N + 1) 0 _ _ (show E5 v4.drew (N + 1) 0 _ from PO.out)).mono ?_; rintro e v5 ⟨b5, rfl, hge, hb5, hby⟩; have F5 : Hid (v5.heap[bd]? = some (.cells cur.toArray 22 (0, 0)) ∧ cur.length = 32) := hid ⟨(hb5.block bd (Nat.lt_of_lt_of_le lbd BL.out.size)).trans ((BL.out.block bd lbd).trans HD.out.1), HD.out.2⟩; have Y5 : Hid (Bytes v5 b5 0 32 (byteOf (pout U0 (kb f) % pI))) := hid hby; have BB : Hid (Below bd w v5 ∧ bd ≤ bd) := hid ⟨(BL.out.drew.mono (Nat.le_of_lt lbd)).trans (hb5.mono (Nat.le_of_lt (Nat.lt_of_lt_of_le lbd BL.out.size))), Nat.le_refl _⟩; clear hge hb5 hby)
        | (refine step_copy_in rfl (.tmp 88) (.tmp 89) rfl bd _ 32 32 cur _ rfl rfl F5 Y5 bd w BB ?_; intro v6 AR BF))
      go_end0
      exact ⟨rfl, by rw [HU0.out]; exact AR.out, BF.out⟩
end Go.Proofs.YtflmkgecgijncaaDoor
