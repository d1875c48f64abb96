/-
  spec.PublicRight.
  laws.FnExactParse.
-/
import Derived.Test.YtflmkgecgijncaaDoorS23
import Derived.Test.YtflmkgecgijncaaDoorF40

namespace Go.Proofs.YtflmkgecgijncaaDoor
open Go.RowKit Go.Shelf Mth

theorem store_qv {ops : Array Oper} {rest : List Oper} {o : Oper} {a : Act} {w : World} {Q : Exit → Act → World → Prop} (hgd : o.guard = none) (x y : Operand) (ho : o.op = .store 67 x y)
    (g : Nat) (X Y Z : Int) (old : Array Value) (hx : a.eval x = .pointer (some ⟨g, 0, none⟩)) (hy : a.eval y = .agg (QV X Y Z)) (hg : Hid (w.heap[g]? = some (.cells old 67 (0, 0)) ∧ old.size = 24)) (B : Nat) (w0 : World) (hb : Hid (Below B w0 w ∧ B ≤ g))
    (h : ∀ w', Hid (Below B w0 w') → wpList Tryd.prog ops Q rest (a.put o.dst undef) w') : wpList Tryd.prog ops Q (o :: rest) a w := by
  refine wpList_store_row hgd 67 x y ho g _ hx hy 67 old hg.out.1 (by rw [info67, QV_size]) (by rw [hg.out.2, QV_size]) (QV_one X Y Z) ?_
  exact h _ (hid (below_setRow hb.out.1 hb.out.2 _))

set_option maxRecDepth 100000 in
set_option maxHeartbeats 4000000 in
theorem right_any (n c : Nat) (a : Option Addr) (f : Nat → Int) (w : World) (hf : Byt f) (hs : 0 < n → ∃ ad, a = some ad ∧ SB w ad n f) :
    Calls Tryd.prog 25 #[.slice a n c] w fun e w' => e = .returned (.bool (decide (n = 32) && sqB (under (fp (unum (f32 n f)))))) ∧ Below w.heap.size w w' := by
  have H : Hid (Byt f ∧ (0 < n → ∃ ad, a = some ad ∧ SB w ad n f)) := hid ⟨hf, hs⟩
  clear hf hs
  go_enter Tryd.func25, Tryd.ntmps25
  go_wp2_with fail
  refine (thirty_any n c a f _ H.out.2).mono ?_
  rintro e w1 ⟨O, rfl, hO, hb⟩
  go_wp2_with fail
  have key : Calls Tryd.prog 48 #[.agg O] w1 (RetQ w1 (fp (unum (f32 n f)))) := by rw [hO.out]; exact decoded_any (f32 n f) (f32_byt n H.out.1) w1
  refine key.mono ?_
  rintro e w2 ⟨X, Y, Z, rfl, hb2⟩
  have B2 : Hid (Below w.heap.size w w2) := hid (hb.out.trans (hb2.mono hb.out.size))
  clear key hb hb2
  obtain ⟨q, hq⟩ : ∃ q, sqB (under (fp (unum (f32 n f)))) = q := ⟨_, rfl⟩
  have HQ := hid hq
  rw [hq]
  clear hq
  have HG : Hid ((w2.alloc (.cells #[.int .u64 0, .int .u64 0, .int .u64 0, .int .u64 0, .int .u64 0, .int .u64 0, .int .u64 0, .int .u64 0, .int .u64 0, .int .u64 0, .int .u64 0, .int .u64 0, .int .u64 0, .int .u64 0, .int .u64 0, .int .u64 0, .int .u64 0, .int .u64 0, .int .u64 0, .int .u64 0, .int .u64 0, .int .u64 0, .int .u64 0, .int .u64 0] 67)).heap[w2.heap.size]? = some (.cells #[.int .u64 0, .int .u64 0, .int .u64 0, .int .u64 0, .int .u64 0, .int .u64 0, .int .u64 0, .int .u64 0, .int .u64 0, .int .u64 0, .int .u64 0, .int .u64 0, .int .u64 0, .int .u64 0, .int .u64 0, .int .u64 0, .int .u64 0, .int .u64 0, .int .u64 0, .int .u64 0, .int .u64 0, .int .u64 0, .int .u64 0, .int .u64 0] 67 (0, 0)) ∧ (#[.int .u64 0, .int .u64 0, .int .u64 0, .int .u64 0, .int .u64 0, .int .u64 0, .int .u64 0, .int .u64 0, .int .u64 0, .int .u64 0, .int .u64 0, .int .u64 0, .int .u64 0, .int .u64 0, .int .u64 0, .int .u64 0, .int .u64 0, .int .u64 0, .int .u64 0, .int .u64 0, .int .u64 0, .int .u64 0, .int .u64 0, .int .u64 0] : Array Value).size = 24) := hid ⟨heap_alloc_new w2 _, rfl⟩
  have HL : Hid (Below w2.heap.size w2 (w2.alloc (.cells #[.int .u64 0, .int .u64 0, .int .u64 0, .int .u64 0, .int .u64 0, .int .u64 0, .int .u64 0, .int .u64 0, .int .u64 0, .int .u64 0, .int .u64 0, .int .u64 0, .int .u64 0, .int .u64 0, .int .u64 0, .int .u64 0, .int .u64 0, .int .u64 0, .int .u64 0, .int .u64 0, .int .u64 0, .int .u64 0, .int .u64 0, .int .u64 0] 67)) ∧ w2.heap.size ≤ w2.heap.size) := hid ⟨(Below.refl _ _).alloc (Nat.le_refl _) _, Nat.le_refl _⟩
  by_cases h32 : n = 32
  · subst h32
    go_wp2_with (refine store_qv rfl (.tmp 3) (.tmp 9) rfl w2.heap.size X Y Z _ rfl rfl HG w2.heap.size w2 HL ?_; intro w3 BL3)
    go_ret
    exact ⟨by simp [HQ.out], B2.out.trans (BL3.out.mono B2.out.size)⟩
  · have h1 : ¬ ((n : Int) = 32) := by omega
    go_wp2_with (refine store_qv rfl (.tmp 3) (.tmp 9) rfl w2.heap.size X Y Z _ rfl rfl HG w2.heap.size w2 HL ?_; intro w3 BL3)
    go_ret
    exact ⟨by simp [h32], B2.out.trans (BL3.out.mono B2.out.size)⟩
end Go.Proofs.YtflmkgecgijncaaDoor

namespace Go.Proofs.YtflmkgecgijncaaDoor
open Go.RowKit Go.Shelf Mth

theorem unum_f32 (f : Nat → Int) : unum (f32 32 f) = unum f := by
  unfold unum
  rw [leN_congr (f := f32 32 f) (g := f) 32 0 (fun j hj => by unfold f32; rw [if_pos (by omega)])]
/-- The code and the reference find a point in the same bytes. -/
theorem found_same (f : Nat → Int) : wasB (uI (unum f)) (vI (unum f)) = sqB (under (fp (unum (f32 32 f)))) := by
  rw [unum_f32]
  apply Bool.eq_iff_iff.2
  rw [wasB_is]
  unfold sqB under
  rw [decide_eq_true_iff, root1_is]

set_option maxRecDepth 100000 in
set_option maxHeartbeats 4000000 in
theorem law15_any (n c : Nat) (a : Addr) (f : Nat → Int) (w : World) (hg : Glob w) (ht : Tab w) (hf : Byt f) (hs : SB w a n f) :
    Calls Tryd.prog 15 #[.slice (some a) n c] w fun e w' => e = .returned (.bool true) ∧ Below w.heap.size w w' := by
  by_cases hn : (n : Int) > 2147483647
  · go_enter Tryd.func15, Tryd.ntmps15
    go_wp2_with fail
    go_ret
    exact ⟨rfl, Below.refl _ _⟩
  · have G : Hid (Glob w ∧ Tab w ∧ Byt f ∧ SB w a n f) := hid ⟨hg, ht, hf, hs⟩
    clear hg ht hf hs
    go_enter Tryd.func15, Tryd.ntmps15
    go_wp2_with fail
    refine (parse_any n c a f _ G.out.1 G.out.2.1 (by omega) G.out.2.2.1 G.out.2.2.2).mono ?_
    intro e w1 h
    rcases h with ⟨rfl, hq, b, c1, rfl, hy, hb⟩ | ⟨hq, rfl, hb⟩
    · obtain ⟨b', o, sp⟩ := a
      have hs2 : sp = none ∧ Bytes w b' o 32 f := by
        rcases G.out.2.2.2 with h | h
        · exact absurd h (by decide)
        · exact h
      obtain ⟨rfl, hy2⟩ := hs2
      have lt2 : b' < w.heap.size := World.block_lt_of_cell? w ⟨b', o + 0, none⟩ (hy2 0 (by decide))
      have lt1 : b < w1.heap.size := World.block_lt_of_cell? w1 ⟨b, 0 + 0, none⟩ (hy 0 (by decide))
      have R : Hid (sqB (under (fp (unum (f32 32 f)))) = true ∧ Bytes w1 b 0 32 f ∧ Bytes w1 b' o 32 f ∧ Below w.heap.size w w1) := hid ⟨(found_same f).symm.trans hq, hy, hy2.below hb lt2, hb⟩
      clear hq hy hb hy2
      go_wp2_with fail
      refine (right_any 32 c (some ⟨b', o, none⟩) f _ G.out.2.2.1 (fun _ => ⟨_, rfl, Or.inr ⟨rfl, R.out.2.2.1⟩⟩)).mono ?_
      rintro e w2 ⟨rfl, hb2⟩
      rw [R.out.1]
      have R2 : Hid (Bytes w2 b 0 32 f ∧ Bytes w2 b' o 32 f ∧ Below w.heap.size w w2) := hid ⟨R.out.2.1.below hb2 lt1, R.out.2.2.1.below hb2 (Nat.lt_of_lt_of_le lt2 R.out.2.2.2.size), R.out.2.2.2.trans (hb2.mono R.out.2.2.2.size)⟩
      clear hb2
      go_wp2_with fail
      refine (Same_any b b' o c1 c f _ R2.out.1 R2.out.2.1).mono ?_
      rintro e w3 ⟨rfl, hb3⟩
      have R3 : Hid (Below w.heap.size w w3) := hid (R2.out.2.2.trans (hb3.mono R2.out.2.2.size))
      clear hb3
      go_wp2_with fail
      go_ret
      exact ⟨rfl, R3.out⟩
    · have R : Hid (Below w.heap.size w w1) := hid hb
      have HQ : (decide (n = 32) && sqB (under (fp (unum (f32 n f))))) = false := by
        by_cases h32 : n = 32
        · subst h32; rw [← found_same, hq rfl]; rfl
        · simp [h32]
      have hq2 := hid HQ
      clear hq hb HQ
      go_wp2_with fail
      refine (right_any n c (some a) f _ G.out.2.2.1 (fun _ => ⟨_, rfl, G.out.2.2.2.below R.out⟩)).mono ?_
      rintro e w2 ⟨rfl, hb2⟩
      rw [hq2.out]
      have R2 : Hid (Below w.heap.size w w2) := hid (R.out.trans (hb2.mono R.out.size))
      clear hb2
      go_wp2_with fail
      go_ret
      exact ⟨rfl, R2.out⟩

set_option maxRecDepth 100000 in
set_option maxHeartbeats 4000000 in
theorem law15_nil (w : World) (hg : Glob w) (ht : Tab w) :
    Calls Tryd.prog 15 #[.slice none 0 0] w fun e w' => e = .returned (.bool true) ∧ Below w.heap.size w w' := by
  have G : Hid (Glob w ∧ Tab w) := hid ⟨hg, ht⟩
  clear hg ht
  go_enter Tryd.func15, Tryd.ntmps15
  go_wp2_with fail
  refine (parse_nil 0 0 zeros _ G.out.1 G.out.2 (fun j => by unfold zeros; decide)).mono ?_
  intro e w1 h
  rcases h with ⟨h, _⟩ | ⟨hq, rfl, hb⟩
  · exact absurd h (by decide)
  · have R : Hid (Below w.heap.size w w1) := hid hb
    clear hq hb
    go_wp2_with fail
    refine (right_any 0 0 none zeros _ (fun j => by unfold zeros; decide) (fun h => absurd h (by decide))).mono ?_
    rintro e w2 ⟨rfl, hb2⟩
    have R2 : Hid (Below w.heap.size w w2) := hid (R.out.trans (hb2.mono R.out.size))
    clear hb2
    rw [show (decide (0 = 32) && sqB (under (fp (unum (f32 0 zeros))))) = false from rfl]
    go_wp2_with fail
    go_ret
    exact ⟨rfl, R2.out⟩
end Go.Proofs.YtflmkgecgijncaaDoor
