/-
  newPublicKey.
  NewPublicKey, Bytes, impl.ParsePublic.
  impl.ParsePublic.
  spec.thirty, spec.Same.
  spec.Same.
-/
import Derived.Test.YtflmkgecgijncaaDoorF35
import Derived.Lib.SlBuf
import Derived.Deep.MidRow
import Derived.Laws.BytesArg

namespace Go.Proofs.YtflmkgecgijncaaDoor
open Go.RowKit Go.Shelf Mth

theorem upd_setCells (b : Nat) : ∀ (vs : List Value) (o : Nat) (w : World), Upd w (w.setCells b o vs) b o vs.length
  | [], o, w => Upd.refl w b o 0
  | v :: r, o, w => by
    have h := upd_setCells b r (o + 1) (w.setCell ⟨b, o, none⟩ v)
    have h1 : Upd w (w.setCell ⟨b, o, none⟩ v) b o (r.length + 1) := (Upd.refl w b o (r.length + 1)).setCell (j := o) (by omega) (by omega) v
    exact h1.trans (h.widen (o' := o) (n' := r.length + 1) (by omega) (by omega))

/-- A public key at bp, or an error. -/
def RetK (z : World) (bp n : Nat) (f : Nat → Int) (e : Ending) (w' : World) : Prop :=
  (n = 32 ∧ wasB (uI (unum f)) (vI (unum f)) = true ∧ e = .returned (.tuple #[.pointer (some ⟨bp, 0, none⟩), .nilIface]) ∧ Bytes w' bp 20 32 f ∧ Below z.heap.size z w') ∨
  ((n = 32 → wasB (uI (unum f)) (vI (unum f)) = false) ∧ ∃ x, e = .returned (.tuple #[.pointer none, .iface 98 x]) ∧ Below z.heap.size z w')

set_option maxRecDepth 100000 in
set_option maxHeartbeats 4000000 in
theorem newKey_bad (bp n c : Nat) (a : Option Addr) (f : Nat → Int) (z w : World) (hz : Below z.heap.size z w) (ht : Tab w) (hn : n ≤ 9223372036854775807) (h32 : n ≠ 32) :
    Calls Tryd.prog 58 #[.pointer (some ⟨bp, 0, none⟩), .slice a n c] w (RetK z bp n f) := by
  have T : Hid (Tab w ∧ Below z.heap.size z w) := hid ⟨ht, hz⟩
  clear ht hz
  have h1 : ¬ ((n : Int) = 32) := by omega
  go_enter Tryd.func58, Tryd.ntmps58
  go_wp2_with fail
  refine (Itoa_any n hn _ T.out.1).mono ?_
  rintro e w1 ⟨⟨s, rfl, hs⟩, hb⟩
  have B1 : Hid (Below z.heap.size z w1) := hid (T.out.2.trans (hb.mono T.out.2.size))
  clear hb
  go_wp2_with fail
  refine (newErr_any _ _).mono ?_
  rintro e w2 ⟨⟨x, rfl⟩, hb⟩
  have B2 : Hid (Below z.heap.size z w2) := hid (B1.out.trans (hb.mono B1.out.size))
  clear hb
  go_wp2_with fail
  go_ret2
  exact Or.inr ⟨fun h => absurd h h32, x, rfl, B2.out⟩

set_option maxRecDepth 100000 in
set_option maxHeartbeats 4000000 in
theorem newKey_any (bp b c : Nat) (f : Nat → Int) (z w : World) (hg : Glob z) (hz : Below z.heap.size z w) (hl : z.heap.size ≤ bp) (hb : Bytes w b 0 32 f) (hf : Byt f) (hc : 32 ≤ c) (hne : b ≠ bp)
    (h0 : Room w bp 0) (h5 : Room w bp 5) (h10 : Room w bp 10) (h15 : Room w bp 15) (hr : BRoom w bp 20 32) :
    Calls Tryd.prog 58 #[.pointer (some ⟨bp, 0, none⟩), .slice (some ⟨b, 0, none⟩) 32 c] w (RetK z bp 32 f) := by
  have G : Hid (Glob z ∧ Below z.heap.size z w ∧ Bytes w b 0 32 f ∧ Byt f ∧ Room w bp 0 ∧ Room w bp 5 ∧ Room w bp 10 ∧ Room w bp 15 ∧ BRoom w bp 20 32) := hid ⟨hg, hz, hb, hf, h0, h5, h10, h15, hr⟩
  clear hg hz hb hf h0 h5 h10 h15 hr
  go_enter Tryd.func58, Tryd.ntmps58
  go_wp2_with fail
  refine (PSetBytes_any bp b c f z _ G.out.1 G.out.2.1 hl G.out.2.2.1 G.out.2.2.2.1 hc G.out.2.2.2.2.1 G.out.2.2.2.2.2.1 G.out.2.2.2.2.2.2.1 G.out.2.2.2.2.2.2.2.1).mono ?_
  rintro e w1 h
  rcases h with ⟨hq, rfl, hu⟩ | ⟨hq, x, rfl, hb⟩
  · have Q : Hid (wasB (uI (unum f)) (vI (unum f)) = true ∧ Upd w w1 bp 0 20) := hid ⟨hq, hu⟩
    clear hq hu
    have BY : Bytes w1 b 0 32 f := G.out.2.2.1.keep Q.out.2 hne
    have BR : BRoom w1 bp 20 32 := fun j hj => by
      rw [Q.out.2.cell (20 + j) (by omega), Q.out.2.froz]; exact G.out.2.2.2.2.2.2.2.2 j hj
    have HR : (Builtin.copy_ #[36, 36] 3 #[.slice (some ⟨bp, 20, none⟩) 32 32, .slice (some ⟨b, 0, none⟩) 32 c]).run Tryd.prog w1 = .ok (goInt (bvals f).length) (w1.setCells bp 20 (bvals f)) :=
      run_copy_cells w1 36 36 3 5 bp 20 32 32 ⟨b, 0, none⟩ 32 c (bvals f) Tryd.underlying36 size5 (bvals_len f) (fun j v hv => by
        have hj : j < 32 := by have := (List.getElem?_eq_some_iff.1 hv).1; rwa [bvals_len] at this
        rw [bvals_get f j hj] at hv
        rw [Addr.add_lit, BY j hj]; exact hv) (fun j hj => (BR j (by rwa [bvals_len] at hj)).1) (fun j hj => (BR j (by rwa [bvals_len] at hj)).2)
        (fun v hv => by unfold bvals at hv; obtain ⟨j, _, rfl⟩ := List.mem_map.1 hv; rfl)
    have B2 : Hid (Bytes (w1.setCells bp 20 (bvals f)) bp 20 32 f) := hid (fun j hj => by
      rw [World.cell?_setCells_in bp (bvals f) 20 w1 (fun i hi => (BR i (by rwa [bvals_len] at hi)).1) j (by rw [bvals_len]; exact hj)]
      have := bvals_get f j hj
      rw [List.getElem?_eq_getElem (by rw [bvals_len]; exact hj)] at this
      exact this)
    have U2 := upd_setCells bp (bvals f) 20 w1
    have L2 : Hid (Below z.heap.size z (w1.setCells bp 20 (bvals f))) := hid ((G.out.2.1.trans (Q.out.2.below hl G.out.2.1.size)).trans (U2.below hl (Nat.le_trans G.out.2.1.size Q.out.2.size)))
    generalize w1.setCells bp 20 (bvals f) = w2 at HR B2 L2
    clear BY BR U2
    go_wp2_with (at_builtin; refine Lib.wpList_copy_run _ rfl _ _ 36 36 rfl _ _ rfl rfl HR ?_)
    go_ret2
    exact Or.inl ⟨rfl, Q.out.1, rfl, B2.out, L2.out⟩
  · have Q : Hid (wasB (uI (unum f)) (vI (unum f)) = false ∧ Below w.heap.size w w1) := hid ⟨hq, hb⟩
    clear hq hb
    go_wp2_with fail
    refine (newErr_any _ _).mono ?_
    rintro e w2 ⟨⟨x', rfl⟩, hb⟩
    have B1 := G.out.2.1.trans (Q.out.2.mono G.out.2.1.size)
    have B2 : Hid (Below z.heap.size z w2) := hid (B1.trans (hb.mono B1.size))
    clear hb B1
    go_wp2_with fail
    go_ret2
    exact Or.inr ⟨fun _ => Q.out.1, x', rfl, B2.out⟩
end Go.Proofs.YtflmkgecgijncaaDoor

namespace Go.Proofs.YtflmkgecgijncaaDoor
open Go.RowKit Go.Shelf Mth

/-- A new public key's cells. -/
def zK : Array Value := #[.int .u64 0, .int .u64 0, .int .u64 0, .int .u64 0, .int .u64 0, .int .u64 0, .int .u64 0, .int .u64 0, .int .u64 0, .int .u64 0, .int .u64 0, .int .u64 0, .int .u64 0, .int .u64 0, .int .u64 0, .int .u64 0, .int .u64 0, .int .u64 0, .int .u64 0, .int .u64 0, .int .u8 0, .int .u8 0, .int .u8 0, .int .u8 0, .int .u8 0, .int .u8 0, .int .u8 0, .int .u8 0, .int .u8 0, .int .u8 0, .int .u8 0, .int .u8 0, .int .u8 0, .int .u8 0, .int .u8 0, .int .u8 0, .int .u8 0, .int .u8 0, .int .u8 0, .int .u8 0, .int .u8 0, .int .u8 0, .int .u8 0, .int .u8 0, .int .u8 0, .int .u8 0, .int .u8 0, .int .u8 0, .int .u8 0, .int .u8 0, .int .u8 0, .int .u8 0]
theorem zK_cell : ∀ j, j < 20 → zK[j]? = some (.int .u64 0) := by
  intro j hj
  have : j = 0 ∨ j = 1 ∨ j = 2 ∨ j = 3 ∨ j = 4 ∨ j = 5 ∨ j = 6 ∨ j = 7 ∨ j = 8 ∨ j = 9 ∨ j = 10 ∨ j = 11 ∨ j = 12 ∨ j = 13 ∨ j = 14 ∨ j = 15 ∨ j = 16 ∨ j = 17 ∨ j = 18 ∨ j = 19 := by omega
  rcases this with rfl | rfl | rfl | rfl | rfl | rfl | rfl | rfl | rfl | rfl | rfl | rfl | rfl | rfl | rfl | rfl | rfl | rfl | rfl | rfl <;> rfl
theorem zK_size : zK.size = 52 := rfl
theorem zK_at (w : World) (j : Nat) : (w.alloc (.cells zK 84)).cell? ⟨w.heap.size, j, none⟩ = zK[j]? := by
  have hh := heap_alloc_new w (.cells zK 84)
  unfold World.cell?; rw [hh]; simp
theorem zK_froz (w : World) (j : Nat) : (w.alloc (.cells zK 84)).frozen? ⟨w.heap.size, j, none⟩ = false := by
  have hh := heap_alloc_new w (.cells zK 84)
  unfold World.frozen?; rw [hh]; simp
theorem zK_room (w : World) (o : Nat) (ho : o + 5 ≤ 20) : Room (w.alloc (.cells zK 84)) w.heap.size o :=
  ⟨⟨0, 0, 0, 0, 0, by rw [zK_at]; exact zK_cell _ (by omega), by rw [zK_at]; exact zK_cell _ (by omega), by rw [zK_at]; exact zK_cell _ (by omega), by rw [zK_at]; exact zK_cell _ (by omega), by rw [zK_at]; exact zK_cell _ (by omega)⟩,
    zK_froz w _, zK_froz w _, zK_froz w _, zK_froz w _, zK_froz w _⟩
theorem zK_broom (w : World) : BRoom (w.alloc (.cells zK 84)) w.heap.size 20 32 := fun j hj => by
  rw [zK_at, zK_froz]
  exact ⟨by rw [Array.getElem?_eq_getElem (by rw [zK_size]; omega)]; rfl, rfl⟩

set_option maxRecDepth 100000 in
set_option maxHeartbeats 4000000 in
theorem newPub_any (n c : Nat) (a : Option Addr) (f : Nat → Int) (w : World) (hg : Glob w) (ht : Tab w) (hn : n ≤ 9223372036854775807) (hf : Byt f) (hb : n = 32 → ∃ b, a = some ⟨b, 0, none⟩ ∧ Bytes w b 0 32 f ∧ 32 ≤ c) :
    Calls Tryd.prog 45 #[.slice a n c] w (RetK w w.heap.size n f) := by
  have G : Hid (Glob w ∧ Tab w ∧ Byt f ∧ (n = 32 → ∃ b, a = some ⟨b, 0, none⟩ ∧ Bytes w b 0 32 f ∧ 32 ≤ c)) := hid ⟨hg, ht, hf, hb⟩
  clear hg ht hf hb
  go_enter Tryd.func45, Tryd.ntmps45
  go_wp2_with fail
  change Calls Tryd.prog 58 #[_, _] (w.alloc (.cells zK 84)) _
  have BL : Hid (Below w.heap.size w (w.alloc (.cells zK 84))) := hid ((Below.refl _ _).alloc (Nat.le_refl _) _)
  have R : Hid (Room (w.alloc (.cells zK 84)) w.heap.size 0 ∧ Room (w.alloc (.cells zK 84)) w.heap.size 5 ∧ Room (w.alloc (.cells zK 84)) w.heap.size 10 ∧ Room (w.alloc (.cells zK 84)) w.heap.size 15 ∧ BRoom (w.alloc (.cells zK 84)) w.heap.size 20 32) :=
    hid ⟨zK_room w 0 (by decide), zK_room w 5 (by decide), zK_room w 10 (by decide), zK_room w 15 (by decide), zK_broom w⟩
  generalize w.alloc (.cells zK 84) = w1 at BL R ⊢
  have key : Calls Tryd.prog 58 #[.pointer (some ⟨w.heap.size, 0, none⟩), .slice a n c] w1 (RetK w w.heap.size n f) := by
    by_cases h32 : n = 32
    · obtain ⟨b, rfl, hb, hc⟩ := G.out.2.2.2 h32
      subst h32
      have lt : b < w.heap.size := World.block_lt_of_cell? _ _ (hb 0 (by decide))
      exact newKey_any w.heap.size b c f w w1 G.out.1 BL.out (Nat.le_refl _) (hb.below BL.out lt) G.out.2.2.1 hc (by omega) R.out.1 R.out.2.1 R.out.2.2.1 R.out.2.2.2.1 R.out.2.2.2.2
    · exact newKey_bad w.heap.size n c a f w w1 BL.out (G.out.2.1.below BL.out) hn h32
  refine key.mono ?_
  intro e w2 h
  rcases h with ⟨rfl, hq, rfl, hy, hb⟩ | ⟨hq, x, rfl, hb⟩
  · have Q : Hid (wasB (uI (unum f)) (vI (unum f)) = true ∧ Bytes w2 w.heap.size 20 32 f ∧ Below w.heap.size w w2) := hid ⟨hq, hy, hb⟩
    clear hq hy hb
    go_wp2_with fail
    go_ret2
    exact Or.inl ⟨rfl, Q.out.1, rfl, Q.out.2⟩
  · have Q : Hid ((n = 32 → wasB (uI (unum f)) (vI (unum f)) = false) ∧ Below w.heap.size w w2) := hid ⟨hq, hb⟩
    clear hq hb
    go_wp2_with fail
    go_ret2
    exact Or.inr ⟨Q.out.1, x, rfl, Q.out.2⟩

set_option maxRecDepth 100000 in
set_option maxHeartbeats 4000000 in
theorem pubBytes_any (bp : Nat) (f : Nat → Int) (w : World) (hb : Bytes w bp 20 32 f) :
    Calls Tryd.prog 47 #[.pointer (some ⟨bp, 0, none⟩)] w fun e w' => ∃ b, e = .returned (.slice (some ⟨b, 0, none⟩) 32 32) ∧ w.heap.size ≤ b ∧ Bytes w' b 0 32 f ∧ Below w.heap.size w w' := by
  have B : Hid (Bytes w bp 20 32 f) := hid hb
  clear hb
  obtain ⟨cs, hcs⟩ : ∃ cs, cs = bvals f := ⟨_, rfl⟩
  have HC : Hid (cs.toArray = (bvals f).toArray) := hid (by rw [hcs])
  have HL : Hid (cs.length = 32) := hid (by rw [hcs, bvals_len])
  have HR : Hid (w.rangeAt bp 20 cs) := hid (fun j v hv => by
    have hj : j < 32 := by have := (List.getElem?_eq_some_iff.1 hv).1; rwa [hcs, bvals_len] at this
    rw [hcs, bvals_get f j hj] at hv
    rw [B.out j hj]; exact hv)
  clear hcs
  have F6 : Hid ((w.alloc (.cells (List.replicate 32 (Value.int .u8 0)).toArray 22)).heap[w.heap.size]? = some (.cells (List.replicate 32 (Value.int .u8 0)).toArray 22 (0, 0)) ∧ (List.replicate 32 (Value.int .u8 0)).toArray.size = 32) := hid ⟨heap_alloc_new w _, zeros_len⟩
  have F7 : Hid (Below w.heap.size w (w.alloc (.cells (List.replicate 32 (Value.int .u8 0)).toArray 22))) := hid ((Below.refl _ _).alloc (Nat.le_refl _) _)
  go_enter Tryd.func47, Tryd.ntmps47
  go_wp2_with (first | (refine wpList_load_mid rfl 22 _ rfl bp 20 rfl cs _ HR.out Tryd.underlying22 rfl (by rw [info22, HL.out]) ?_) | (refine store_arr rfl _ _ rfl w.heap.size f cs.toArray _ rfl rfl F6 HC w.heap.size w (hid ⟨F7.out, Nat.le_refl _⟩) ?_; intro w2 AR2 BL2))
  go_ret
  exact ⟨_, rfl, Nat.le_refl _, AR2.out.bytes, BL2.out⟩
end Go.Proofs.YtflmkgecgijncaaDoor

namespace Go.Proofs.YtflmkgecgijncaaDoor
open Go.RowKit Go.Shelf Mth

/-- What ParsePublic tells. -/
def RetPP (w : World) (n : Nat) (f : Nat → Int) (e : Ending) (w' : World) : Prop :=
  (n = 32 ∧ wasB (uI (unum f)) (vI (unum f)) = true ∧ ∃ b c, e = .returned (.tuple #[.slice (some ⟨b, 0, none⟩) 32 c, .bool true]) ∧ Bytes w' b 0 32 f ∧ Below w.heap.size w w') ∨
  ((n = 32 → wasB (uI (unum f)) (vI (unum f)) = false) ∧ e = .returned (.tuple #[.slice none 0 0, .bool false]) ∧ Below w.heap.size w w')

set_option maxRecDepth 100000 in
set_option maxHeartbeats 4000000 in
theorem parse_any (n c : Nat) (a : Addr) (f : Nat → Int) (w : World) (hg : Glob w) (ht : Tab w) (hn : n ≤ 140737488355328) (hf : Byt f) (hs : SB w a n f) :
    Calls Tryd.prog 24 #[.slice (some a) n c] w (RetPP w n f) := by
  have G : Hid (Glob w ∧ Tab w ∧ Byt f ∧ SB w a n f) := hid ⟨hg, ht, hf, hs⟩
  clear hg ht hf hs
  go_enter Tryd.func24, Tryd.ntmps24
  go_wp2_with fail
  refine (Clone_any a n c f _ hn G.out.2.2.2).mono ?_
  rintro e w1 ⟨b, c1, rfl, hc1, lb, hy, hb⟩
  have Q : Hid (Bytes w1 b 0 n f ∧ Below w.heap.size w w1 ∧ n ≤ c1) := hid ⟨hy, hb, hc1⟩
  clear hy hb hc1
  go_wp2_with fail
  refine (newPub_any n c1 (some ⟨b, 0, none⟩) f _ (G.out.1.below Q.out.2.1) (G.out.2.1.below Q.out.2.1) (by omega) G.out.2.2.1 (fun h => ⟨b, rfl, h ▸ Q.out.1, h ▸ Q.out.2.2⟩)).mono ?_
  intro e w2 h
  rcases h with ⟨rfl, hq, rfl, hy, hb⟩ | ⟨hq, x, rfl, hb⟩
  · have R : Hid (wasB (uI (unum f)) (vI (unum f)) = true ∧ Bytes w2 w1.heap.size 20 32 f ∧ Below w.heap.size w w2) := hid ⟨hq, hy, Q.out.2.1.trans (hb.mono Q.out.2.1.size)⟩
    clear hq hy hb
    go_wp2_with fail
    refine (pubBytes_any w1.heap.size f _ R.out.2.1).mono ?_
    rintro e w3 ⟨b2, rfl, lb2, hy2, hb2⟩
    have R2 : Hid (Bytes w3 b2 0 32 f ∧ Below w.heap.size w w3) := hid ⟨hy2, R.out.2.2.trans (hb2.mono R.out.2.2.size)⟩
    clear hy2 hb2 lb2
    go_wp2_with fail
    refine (Clone_any ⟨b2, 0, none⟩ 32 32 f _ (by decide) (Or.inr ⟨rfl, R2.out.1⟩)).mono ?_
    rintro e w4 ⟨b3, c3, rfl, hc3, lb3, hy3, hb3⟩
    have R3 : Hid (Bytes w4 b3 0 32 f ∧ Below w.heap.size w w4) := hid ⟨hy3, R2.out.2.trans (hb3.mono R2.out.2.size)⟩
    clear hy3 hb3 lb3 hc3
    go_wp2_with fail
    go_ret2
    exact Or.inl ⟨rfl, R.out.1, b3, c3, rfl, R3.out⟩
  · have R : Hid ((n = 32 → wasB (uI (unum f)) (vI (unum f)) = false) ∧ Below w.heap.size w w2) := hid ⟨hq, Q.out.2.1.trans (hb.mono Q.out.2.1.size)⟩
    clear hq hb
    go_wp2_with fail
    go_ret2
    exact Or.inr ⟨R.out.1, rfl, R.out.2⟩

set_option maxRecDepth 100000 in
set_option maxHeartbeats 4000000 in
theorem parse_nil (n c : Nat) (f : Nat → Int) (w : World) (hg : Glob w) (ht : Tab w) (hf : Byt f) :
    Calls Tryd.prog 24 #[.slice none n c] w (RetPP w 0 f) := by
  have G : Hid (Glob w ∧ Tab w ∧ Byt f) := hid ⟨hg, ht, hf⟩
  clear hg ht hf
  go_enter Tryd.func24, Tryd.ntmps24
  go_wp2_with fail
  refine (Clone_nil n c _).mono ?_
  rintro e w1 ⟨rfl, rfl⟩
  go_wp2_with fail
  refine (newPub_any 0 0 none f _ G.out.1 G.out.2.1 (by decide) G.out.2.2 (fun h => absurd h (by decide))).mono ?_
  intro e w2 h
  rcases h with ⟨h, _⟩ | ⟨hq, x, rfl, hb⟩
  · exact absurd h (by decide)
  · have R : Hid (Below w1.heap.size w1 w2) := hid hb
    clear hq hb
    go_wp2_with fail
    go_ret2
    exact Or.inr ⟨fun h => absurd h (by decide), rfl, R.out⟩
end Go.Proofs.YtflmkgecgijncaaDoor

namespace Go.Proofs.YtflmkgecgijncaaDoor
open Go.RowKit Go.Shelf Mth

/-- The first 32 of n bytes, noughts behind them. -/
def f32 (n : Nat) (f : Nat → Int) (j : Nat) : Int := if j < n then f j else 0
theorem f32_byt (n : Nat) {f : Nat → Int} (h : Byt f) : Byt (f32 n f) := by
  intro j; unfold f32
  by_cases hj : j < n
  · rw [if_pos hj]; exact h j
  · rw [if_neg hj]; decide
theorem splice32 (n : Nat) (f : Nat → Int) : splice (bvals zeros) 0 (vN (Nat.min n 32) f) = bvals (f32 n f) := by
  have hm : Nat.min n 32 ≤ 32 := Nat.min_le_right n 32
  apply List.ext_getElem?
  intro j
  unfold splice
  rw [List.take_zero, List.nil_append, Nat.zero_add, vN_len]
  by_cases hj : j < 32
  · rw [bvals_get _ j hj]
    unfold f32
    by_cases h : j < Nat.min n 32
    · have : j < n := Nat.lt_of_lt_of_le h (Nat.min_le_left n 32)
      rw [List.getElem?_append_left (by rw [vN_len]; exact h), vN_get h, if_pos this]
    · have : ¬ j < n := by intro h2; exact h (Nat.lt_min.2 ⟨h2, hj⟩)
      rw [List.getElem?_append_right (by rw [vN_len]; omega), vN_len, List.getElem?_drop, if_neg this, show Nat.min n 32 + (j - Nat.min n 32) = j by omega, bvals_get _ j hj]
      rfl
  · rw [List.getElem?_eq_none (by rw [List.length_append, vN_len, List.length_drop, bvals_len]; omega), List.getElem?_eq_none (by rw [bvals_len]; omega)]

set_option maxRecDepth 100000 in
set_option maxHeartbeats 4000000 in
theorem thirty_any (n c : Nat) (a : Option Addr) (f : Nat → Int) (w : World) (hs : 0 < n → ∃ ad, a = some ad ∧ SB w ad n f) :
    Calls Tryd.prog 49 #[.slice a n c] w (RetArr w (f32 n f)) := by
  have H : Hid (0 < n → ∃ ad, a = some ad ∧ SB w ad n f) := hid hs
  clear hs
  obtain ⟨O, hO⟩ : ∃ O, O = (bvals zeros).toArray := ⟨_, rfl⟩
  have HO : Hid (O = (bvals zeros).toArray) := hid hO
  clear hO
  obtain ⟨cs, hcs⟩ : ∃ cs, cs = vN (Nat.min n 32) f := ⟨_, rfl⟩
  have HC : Hid (cs = vN (Nat.min n 32) f) := hid hcs
  clear hcs
  obtain ⟨W1, hW1⟩ : ∃ W1, W1 = w.alloc (.cells (List.replicate 32 (Value.int .u8 0)).toArray 22) := ⟨_, rfl⟩
  have S1 : W1.heap.size = w.heap.size + 1 := by rw [hW1]; simp
  have A1 : W1.heap[w.heap.size]? = some (.cells (List.replicate 32 (Value.int .u8 0)).toArray 22 (0, 0)) := by rw [hW1]; exact heap_alloc_new w _
  have L1 : Below w.heap.size w W1 := by rw [hW1]; exact (Below.refl _ _).alloc (Nat.le_refl _) _
  have F0 : Hid ((W1.alloc (.cells (List.replicate 32 (Value.int .u8 0)).toArray 22)).heap[w.heap.size + 1]? = some (.cells (List.replicate 32 (Value.int .u8 0)).toArray 22 (0, 0)) ∧ (List.replicate 32 (Value.int .u8 0)).toArray.size = 32) := hid ⟨by rw [← S1]; exact heap_alloc_new W1 _, zeros_len⟩
  have F1 : Hid (Below (w.heap.size + 1) W1 (W1.alloc (.cells (List.replicate 32 (Value.int .u8 0)).toArray 22))) := hid ((Below.refl _ _).alloc (by rw [S1]; exact Nat.le_refl _) _)
  rw [hW1] at F0 F1
  go_enter Tryd.func49, Tryd.ntmps49
  go_wp2_with (first | (refine wpList_y (S := fun _ => True) (y_build rfl _ rfl zeros O HO (by kernel_rfl)) trivial ?_) | (refine store_arr rfl _ _ rfl (w.heap.size + 1) zeros O _ rfl rfl F0 HO (w.heap.size + 1) _ (hid ⟨F1.out, Nat.le_refl _⟩) ?_; intro w2 AR2 BL2) | (refine wpList_copy_splice rfl (.tmp 5) (.tmp 6) 36 36 rfl 5 Tryd.underlying36 size5 _ _ _ _ _ _ rfl rfl (w.heap.size + 1) 0 (bvals zeros) 22 AR2.out cs ?q1 ?q2 ?q3 ?q4 (w.heap.size + 1) _ BL2.out (Nat.le_refl _) ?_))
  case q1 => rw [HC.out, vN_len]
  case q2 =>
    intro hp
    rw [HC.out, vN_len] at hp
    obtain ⟨ad, ha, hs⟩ := H.out (Nat.lt_of_lt_of_le hp (Nat.min_le_left n 32))
    refine ⟨ad, ha, fun j v hv => ?_⟩
    rw [HC.out] at hv
    obtain ⟨hj, rfl⟩ := vN_at hv
    have hb2 : Below w.heap.size w w2 := by
      have h2 : Below (w.heap.size + 1) W1 w2 := by rw [hW1]; exact BL2.out
      exact L1.trans (h2.mono (by omega))
    exact (hs.below hb2).cell (Nat.lt_of_lt_of_le hj (Nat.min_le_left n 32))
  case q3 => rw [HC.out, vN_len, bvals_len]; have h32 : Nat.min n 32 ≤ 32 := Nat.min_le_right n 32; omega
  case q4 =>
    intro v hv
    rw [HC.out] at hv
    unfold vN at hv
    obtain ⟨j, _, rfl⟩ := List.mem_map.1 hv; rfl
  intro w3 h3 hb3
  have hb4 : Below (w.heap.size + 1) W1 w3 := by rw [hW1]; exact hb3
  have AR3 : Hid (Arr w3 (w.heap.size + 1) (f32 n f)) := hid (by
    have h4 := h3.out
    rw [HC.out, splice32] at h4
    exact h4)
  have F3 : Hid ((w3.heap[w.heap.size]? = some (.cells (List.replicate 32 (Value.int .u8 0)).toArray 22 (0, 0)) ∧ (List.replicate 32 (Value.int .u8 0)).toArray.size = 32) ∧ Below w.heap.size w w3) :=
    hid ⟨⟨(hb4.block _ (by omega)).trans A1, zeros_len⟩, L1.trans (hb4.mono (by omega))⟩
  clear hW1 S1 A1 L1 F0 F1 AR2 BL2 h3 hb3 hb4 W1
  obtain ⟨O2, hO⟩ : ∃ O2, O2 = (bvals (f32 n f)).toArray := ⟨_, rfl⟩
  have HO2 : Hid (O2 = (bvals (f32 n f)).toArray) := hid hO
  clear hO
  go_wp2_with (first | (refine load_arr rfl _ rfl (w.heap.size + 1) _ O2 rfl AR3 HO2 ?_) | (refine store_arr rfl _ _ rfl w.heap.size (f32 n f) O2 _ rfl rfl (hid F3.out.1) HO2 w.heap.size w (hid ⟨F3.out.2, Nat.le_refl _⟩) ?_; intro w4 AR4 BL4))
  exact ret_arr (p := 2) rfl rfl AR4.out rfl ⟨_, rfl, hid rfl, BL4⟩
end Go.Proofs.YtflmkgecgijncaaDoor

namespace Go.Proofs.YtflmkgecgijncaaDoor
open Go.RowKit Go.Shelf Mth

theorem under9 : Tryd.prog.underlying 9 = some .string := by kernel_rfl
theorem conv_bytes (w : World) (b o c : Nat) (f : Nat → Int) (h : Bytes w b o 32 f) : (convert 36 9 (.slice (some ⟨b, o, none⟩) 32 c)).run Tryd.prog w = .ok (.string (strOfNums ((List.range 32).map f))) w :=
  run_convert_bytes_arg w 36 5 Tryd.underlying36 under5 b o 32 c ((List.range 32).map f) (by simp) (fun i hi => by
    rw [h i hi]
    congr 2
    simp [List.getD, List.getElem?_range hi]) 9 under9

set_option maxRecDepth 100000 in
set_option maxHeartbeats 1000000 in
/-- The same bytes are told to be so. -/
theorem Same_any (b b' o c c' : Nat) (f : Nat → Int) (w : World) (h : Bytes w b 0 32 f) (h' : Bytes w b' o 32 f) :
    Calls Tryd.prog 26 #[.slice (some ⟨b, 0, none⟩) 32 c, .slice (some ⟨b', o, none⟩) 32 c'] w fun e w' => e = .returned (.bool true) ∧ Below w.heap.size w w' := by
  have q1 := conv_bytes w b 0 c f h
  have q2 := conv_bytes w b' o c' f h'
  generalize strOfNums ((List.range 32).map f) = S at q1 q2
  clear h h'
  go_enter Tryd.func26, Tryd.ntmps26
  go_wp2_with fail
  go_ret
  exact ⟨by simp, Below.refl _ _⟩
end Go.Proofs.YtflmkgecgijncaaDoor
