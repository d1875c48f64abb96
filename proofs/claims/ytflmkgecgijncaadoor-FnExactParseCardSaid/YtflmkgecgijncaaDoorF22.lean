/-
  What is shared.
-/
import Derived.Test.YtflmkgecgijncaaDoorF21
import Derived.LoopTactic
namespace Go.Proofs.YtflmkgecgijncaaDoor
open Go.RowKit Go.Shelf

def zeros (_ : Nat) : Int := 0

theorem or_zero (q z : Int) (h0 : 0 ≤ q) (h1 : q ≤ 255) (h2 : 0 ≤ z) (h3 : z ≤ 255) : bits .or .u8 q z = 0 ↔ q = 0 ∧ z = 0 := by
  obtain ⟨a, rfl⟩ := Int.eq_ofNat_of_zero_le h0
  obtain ⟨b, rfl⟩ := Int.eq_ofNat_of_zero_le h2
  rw [(bits_nat .u8 8 (by decide) wraps_u8 a b (by omega) (by omega)).2]
  constructor
  · intro h
    have h4 : a ||| b = 0 := by omega
    have := Nat.or_eq_zero_iff.1 h4
    omega
  · rintro ⟨h4, h5⟩
    have h6 : a = 0 := by omega
    have h7 : b = 0 := by omega
    subst h6 h7; rfl

theorem ret_zero {q : Int} {f : Nat → Int} (h : q = 0 ↔ ∀ j, j < 32 → f j = 0) : Ending.returned (.bool (q == 0)) = .returned (.bool (same f zeros)) := by
  congr 2
  apply Bool.eq_iff_iff.2
  unfold same zeros
  rw [List.all_eq_true, beq_iff_eq, h]
  constructor
  · intro h1 i hi; simp [h1 i (List.mem_range.1 hi)]
  · intro h1 j hj; simpa using h1 j (List.mem_range.2 hj)

set_option maxHeartbeats 1000000 in
/-- isZero tells whether the 32 bytes are all 0. -/
theorem isZero_any (b c : Nat) (f : Nat → Int) (w : World) (hc : Bytes w b 0 32 f) (hf : Byt f) :
    Calls Tryd.prog 56 #[.slice (some ⟨b, 0, none⟩) 32 c] w fun e w' => e = .returned (.bool (same f zeros)) ∧ w = w' := by
  have A : Hid (Bytes w b 0 32 f ∧ Byt f) := hid ⟨hc, hf⟩
  clear hc hf
  go_enter Tryd.func56, Tryd.ntmps56
  go_wp2
  go_loop [3, 8] (fun z i => ∃ (k : Nat) (q : Int), k ≤ 32 ∧ 0 ≤ q ∧ q ≤ 255 ∧ (q = 0 ↔ ∀ j, j < k → f j = 0) ∧ z = .int .u8 q ∧ i = .int .i64 k) (fun _ i => 32 - (intOf i).toNat)
  case atStart => exact ⟨0, 0, by omega, by omega, by omega, by simp, rfl, rfl⟩
  case round =>
    obtain ⟨k, q, hk, hq0, hq1, hq, rfl, rfl⟩ := hrel
    have Q : Hid (q = 0 ↔ ∀ j, j < k → f j = 0) := hid hq
    clear hq
    by_cases hlt : k < 32
    · have hcell := A.out.1 k hlt
      have hr := A.out.2 k
      obtain ⟨z, hz⟩ : ∃ z, f k = z := ⟨_, rfl⟩
      rw [hz] at hcell hr
      rw [Nat.zero_add] at hcell
      have E : Hid (f k = z) := hid hz
      clear hz
      go_wp2
      go_round
      case rel =>
        refine ⟨k + 1, bits .or .u8 q z, by omega, bits_lo_u8 _ _ _, bits_hi_u8 _ _ _, ?_, rfl, by go_num⟩
        rw [or_zero q _ hq0 hq1 hr.1 hr.2, Q.out]
        constructor
        · rintro ⟨h1, h2⟩ j hj
          by_cases hjk : j < k
          · exact h1 j hjk
          · obtain rfl : j = k := by omega
            rw [E.out]; exact h2
        · intro h
          exact ⟨fun j hj => h j (by omega), by rw [← E.out]; exact h k (by omega)⟩
      case measure => simp [intOf]; omega
    · go_wp2
      go_ret
      obtain rfl : k = 32 := by omega
      exact ⟨ret_zero Q.out, rfl⟩

/-- A new error. -/
theorem newErr_any (s : ByteArray) (w : World) : Calls Tryd.prog 57 #[.string s] w fun e w' => (∃ v, e = .returned (.iface 98 v)) ∧ Below w.heap.size w w' := by
  go_enter Tryd.func57, Tryd.ntmps57
  go_wp2
  go_ret
  exact ⟨⟨_, rfl⟩, (Below.refl _ _).alloc (Nat.le_refl _) _⟩

theorem ret_two {fn : Func} {p q : Tmp} {g : Nat} {f : Nat → Int} {R : Ending → World → Prop} {a : Act} {w : World} {v : Value} (h : fn.results = #[.cell p 22, .tmp q]) (hp : a.tmps.getD p undef = .pointer (some ⟨g, 0, none⟩)) (hv : a.tmps.getD q undef = v) (hg : Arr w g f)
    (hd : a.defers = []) (hR : R (.returned (.tuple #[av f, v])) w) : bodyPost Tryd.prog fn R .ret a w := by
  refine bodyPost_ret ?_ hd hR
  have hp' : a.tmps[p]?.getD undef = .pointer (some ⟨g, 0, none⟩) := by simpa using hp
  have hv' : a.tmps[q]?.getD undef = v := by simpa using hv
  simp [results, h, hp', hv', asAddr, run_loadVar_row w g 22 22 (bvals f).toArray (0, 0) _ hg Tryd.underlying22 rfl (by rw [info22]; simp [bvals_len]), av]
/-- The call returned the 32 bytes and whether they are no noughts; what was there is as it was. -/
def RetErr (w : World) (f : Nat → Int) (e : Ending) (w' : World) : Prop :=
  ∃ (O : Array Value) (v : Value), e = .returned (.tuple #[.agg O, v]) ∧ Hid (O = (bvals f).toArray) ∧ Hid (Below w.heap.size w w') ∧ ((same f zeros = true ∧ ∃ x, v = .iface 98 x) ∨ (same f zeros = false ∧ v = .nilIface))

theorem bvals_zeros {f : Nat → Int} (h : same f zeros = true) : (bvals f).toArray = (bvals zeros).toArray := congrArg _ ((bvals_same f zeros).1 h)
theorem built_zeros : Tryd.prog.built 22 [] = some (bvals zeros).toArray := by kernel_rfl

set_option maxRecDepth 100000 in
set_option maxHeartbeats 1000000 in
theorem zzShared_any (f g : Nat → Int) (hf : Byt f) (hg : Byt g) (X Y : Array Value) (hX : Hid (X = (bvals f).toArray)) (hY : Hid (Y = (bvals g).toArray)) (w : World) (h1 : One5 w) :
    Calls Tryd.prog 43 #[.agg X, .agg Y] w (RetErr w (lad f g)) := by
  have H1 : Hid (One5 w ∧ Byt f ∧ Byt g) := hid ⟨h1, hf, hg⟩
  clear h1 hf hg
  go_enter Tryd.func43, Tryd.ntmps43
  go_wp2_with fail
  have hsz : (w.alloc (.cells X 22)).heap.size = w.heap.size + 1 := by simp
  have A0 : Arr (w.alloc (.cells X 22)) w.heap.size f := by rw [hX.out]; exact heap_alloc_new w _
  have A1 : Arr ((w.alloc (.cells X 22)).alloc (.cells Y 22)) (w.heap.size + 1) g := by
    rw [hY.out, ← hsz]; exact heap_alloc_new (w.alloc (.cells X 22)) _
  have A2 : Arr ((w.alloc (.cells X 22)).alloc (.cells Y 22)) w.heap.size f := (Below.heap_alloc _ _ _ (by rw [hsz]; omega)).trans A0
  obtain ⟨W, hW⟩ : ∃ W, W = (w.alloc (.cells X 22)).alloc (.cells Y 22) := ⟨_, rfl⟩
  rw [← hW] at A1 A2 ⊢
  have hbl : Below w.heap.size w W := by rw [hW]; exact ((Below.refl _ _).alloc (Nat.le_refl _) _).alloc (by simp) _
  have hs2 : W.heap.size = w.heap.size + 1 + 1 := by rw [hW]; simp
  clear hW A0 hsz
  go_still_tail 3, (by kernel_rfl)
  change wpList _ _ _ _ _ (World.drew _)
  generalize hZ : World.drew _ = Z
  have z0 : Z.heap[w.heap.size + 1 + 1]? = some (.cells (List.replicate 32 (.int .u8 0)).toArray 22 (0, 0)) := by rw [← hZ, ← hs2]; exact heap_alloc_new W _
  have z1 : Below W.heap.size W Z := by rw [← hZ]; exact ((Below.refl _ _).alloc (Nat.le_refl _) _).drew
  have z2 : Bytes Z w.heap.size 0 32 f := (A2.below z1 (by omega)).bytes
  have z3 : Bytes Z (w.heap.size + 1) 0 32 g := (A1.below z1 (by omega)).bytes
  have z4 : One5 Z := H1.out.1.below (hbl.trans (z1.mono (by omega)))
  have z5 : Below w.heap.size w Z := hbl.trans (z1.mono (by omega))
  have Q : Hid (Z.heap[w.heap.size + 1 + 1]? = some (.cells (List.replicate 32 (.int .u8 0)).toArray 22 (0, 0)) ∧ Bytes Z w.heap.size 0 32 f ∧ Bytes Z (w.heap.size + 1) 0 32 g ∧ One5 Z ∧ Below w.heap.size w Z) := hid ⟨z0, z2, z3, z4, z5⟩
  clear hZ z0 z1 z2 z3 z4 z5 A1 A2 hbl hs2
  go_wp2_with fail
  refine (ladder_any (w.heap.size + 1 + 1) w.heap.size 0 (w.heap.size + 1) 0 32 32 f g _ _ Q.out.1 (by simp) Q.out.2.1 H1.out.2.1 Q.out.2.2.1 H1.out.2.2 Q.out.2.2.2.1 (by decide)).mono ?_
  rintro e w1 ⟨rfl, harr, hb⟩
  have AR : Hid (Arr w1 (w.heap.size + 1 + 1) (lad f g)) := hid harr
  have BL : Hid (Below w.heap.size w w1) := hid (Q.out.2.2.2.2.trans (hb.mono (by omega)))
  clear harr hb
  obtain ⟨O, hO⟩ : ∃ O, O = (bvals (lad f g)).toArray := ⟨_, rfl⟩
  have HO : Hid (O = (bvals (lad f g)).toArray) := hid hO
  clear hO
  cases hs : same (lad f g) zeros
  · have HS : Hid (same (lad f g) zeros = false) := hid hs
    clear hs
    go_wp2_with (first | (go_at_call 56; refine (isZero_any (w.heap.size + 1 + 1) 32 (lad f g) w1 AR.out.bytes (lad_byt f g)).mono ?_; rintro e w2 ⟨rfl, rfl⟩; rw [HS.out]) | (refine load_arr rfl _ rfl (w.heap.size + 1 + 1) _ O rfl AR HO ?_) | (refine store_arr rfl _ _ rfl (w.heap.size + 1 + 1) (lad f g) O _ rfl rfl (hid AR.out.old) HO w.heap.size w (hid ⟨BL.out, by omega⟩) ?_; intro w2 AR2 BL2))
    exact ret_two (p := 4) (q := 5) rfl rfl rfl AR2.out rfl ⟨_, _, rfl, hid rfl, BL2, Or.inr ⟨HS.out, rfl⟩⟩
  · have HS : Hid (same (lad f g) zeros = true) := hid hs
    clear hs
    have HZ : Hid (O = (bvals zeros).toArray) := hid (HO.out.trans (bvals_zeros HS.out))
    go_wp2_with (first | (go_at_call 56; refine (isZero_any (w.heap.size + 1 + 1) 32 (lad f g) w1 AR.out.bytes (lad_byt f g)).mono ?_; rintro e w2 ⟨rfl, rfl⟩; rw [HS.out]) | (go_at_call 57; refine (newErr_any _ w1).mono ?_; rintro e w2 ⟨⟨v, rfl⟩, hb2⟩; have AR1 : Hid (Arr w2 (w.heap.size + 1 + 1) (lad f g)) := hid (AR.out.below hb2 AR.out.size); have BL1 : Hid (Below w.heap.size w w2) := hid (BL.out.trans (hb2.mono BL.out.size)); clear hb2) | (refine wpList_y (S := fun _ => True) (y_build rfl _ rfl zeros O HZ (by kernel_rfl)) trivial ?_) | (refine store_arr rfl _ _ rfl (w.heap.size + 1 + 1) (lad f g) O _ rfl rfl (hid AR1.out.old) HO w.heap.size w (hid ⟨BL1.out, by omega⟩) ?_; intro w3 AR2 BL2))
    exact ret_two (p := 4) (q := 5) rfl rfl rfl AR2.out rfl ⟨_, _, rfl, hid rfl, BL2, Or.inl ⟨HS.out, _, rfl⟩⟩
end Go.Proofs.YtflmkgecgijncaaDoor
