/-
  The state of memory in the field's long products: blocks of two words that the call itself made, above all that was there.
-/
import Derived.Test.YtflmkgecgijncaaDoorF1
namespace Go.Proofs.YtflmkgecgijncaaDoor
open Go.RowKit Go.Shelf

/-- Above w0, W holds the listed blocks of two words; what was in w0 is as it was. -/
structure St (w0 W : World) (Bs : List (Nat × Int × Int)) : Prop where
  below : Below w0.heap.size w0 W
  lt : ∀ t ∈ Bs, w0.heap.size ≤ t.1 ∧ t.1 < W.heap.size
  heap : ∀ t ∈ Bs, W.heap[t.1]? = some (.cells #[.int .u64 t.2.1, .int .u64 t.2.2] 119 (0, 0))
  ne : Bs.Pairwise (fun a b => b.1 ≠ a.1)

theorem St.refl (w : World) : St w w [] := ⟨Below.refl _ _, by simp, by simp, List.Pairwise.nil⟩

theorem St.call {w0 W W2 : World} {Bs : List (Nat × Int × Int)} (h : St w0 W Bs) (hb : Below W.heap.size W W2) : St w0 W2 Bs := by
  refine ⟨h.below.trans (hb.mono h.below.size), fun t ht => ⟨(h.lt t ht).1, Nat.lt_of_lt_of_le (h.lt t ht).2 hb.size⟩, fun t ht => ?_, h.ne⟩
  rw [hb.block _ (h.lt t ht).2]; exact h.heap t ht

theorem St.drewN {w0 W : World} {Bs : List (Nat × Int × Int)} (h : St w0 W Bs) (n : Nat) : St w0 (W.drewN n) Bs :=
  ⟨⟨h.below.os, h.below.tape, h.below.output, h.below.size, h.below.block⟩, h.lt, h.heap, h.ne⟩

theorem St.new {w0 W : World} {Bs : List (Nat × Int × Int)} (h : St w0 W Bs) (lo hi : Int) : St w0 (W.alloc (.cells #[.int .u64 lo, .int .u64 hi] 119)) ((W.heap.size, lo, hi) :: Bs) := by
  refine ⟨h.below.alloc h.below.size _, ?_, ?_, List.Pairwise.cons (fun t ht => Nat.ne_of_lt (h.lt t ht).2) h.ne⟩
  · intro t ht
    rcases List.mem_cons.1 ht with rfl | ht
    · exact ⟨h.below.size, by simp⟩
    · have := h.lt t ht; exact ⟨this.1, by simp; omega⟩
  · intro t ht
    rcases List.mem_cons.1 ht with rfl | ht
    · exact heap_alloc_new W _
    · rw [Below.heap_alloc _ _ _ (h.lt t ht).2]; exact h.heap t ht

theorem St.cell {w0 W : World} {Bs : List (Nat × Int × Int)} (h : St w0 W Bs) {B : Nat} {lo hi : Int} (hm : (B, lo, hi) ∈ Bs) :
    W.cell? ⟨B, 0, none⟩ = some (.int .u64 lo) ∧ W.cell? ⟨B, 1, none⟩ = some (.int .u64 hi) ∧ W.frozen? ⟨B, 0, none⟩ = false ∧ W.frozen? ⟨B, 1, none⟩ = false := by
  have := h.heap _ hm
  simp only at this
  refine ⟨?_, ?_, ?_, ?_⟩ <;> simp [World.cell?, World.frozen?, this]

theorem St.old {w0 W : World} {Bs : List (Nat × Int × Int)} (h : St w0 W Bs) {p : Addr} (hp : p.block < w0.heap.size) : W.cell? p = w0.cell? p ∧ W.frozen? p = w0.frozen? p :=
  ⟨h.below.cell hp, h.below.frozen hp⟩

theorem St.store {w0 W : World} {Bs : List (Nat × Int × Int)} {B : Nat} {lo hi : Int} (h : St w0 W ((B, lo, hi) :: Bs)) (lo' hi' : Int) :
    St w0 ((W.setCell ⟨B, 0, none⟩ (.int .u64 lo')).setCell ⟨B, 1, none⟩ (.int .u64 hi')) ((B, lo', hi') :: Bs) := by
  have hB := h.lt _ (List.mem_cons_self ..)
  have hh := h.heap _ (List.mem_cons_self ..)
  have hne : ∀ t ∈ Bs, t.1 ≠ B := fun t ht => List.rel_of_pairwise_cons h.ne ht
  simp only at hB hh
  refine ⟨(h.below.setCell hB.1 _).setCell hB.1 _, ?_, ?_, List.Pairwise.cons (fun t ht => hne t ht) (List.Pairwise.of_cons h.ne)⟩
  · intro t ht
    rcases List.mem_cons.1 ht with rfl | ht
    · exact ⟨hB.1, by simp [World.setCell]; exact hB.2⟩
    · have := h.lt t (List.mem_cons_of_mem _ ht); exact ⟨this.1, by simp [World.setCell]; exact this.2⟩
  · intro t ht
    rcases List.mem_cons.1 ht with rfl | ht
    · simp [World.setCell, Array.getElem?_modify, hh]
    · rw [Below.heap_setCell _ _ _ _ (hne t ht), Below.heap_setCell _ _ _ _ (hne t ht)]
      exact h.heap t (List.mem_cons_of_mem _ ht)

/-- The products of two limbs. -/
theorem limb_mul {x y : Int} (hx : 0 ≤ x) (hx' : x < 4503599627370496) (hy : 0 ≤ y) (hy' : y < 4503599627370496) : Hid (0 ≤ x * y ∧ x * y ≤ 20282409603651670423947251286016) := by
  refine ⟨Int.mul_nonneg hx hy, ?_⟩
  have := Int.mul_le_mul (Int.le_of_lt hx') (Int.le_of_lt hy') hy (by decide)
  exact Int.le_trans this (by decide)

/-- Five limbs, laid where b and o lead. -/
def put5 (w : World) (b o : Nat) (c0 c1 c2 c3 c4 : Int) : World :=
  ((((w.setCell ⟨b, o, none⟩ (.int .u64 c0)).setCell ⟨b, o + 1, none⟩ (.int .u64 c1)).setCell ⟨b, o + 2, none⟩ (.int .u64 c2)).setCell ⟨b, o + 3, none⟩ (.int .u64 c3)).setCell ⟨b, o + 4, none⟩ (.int .u64 c4)

/-- The five limbs at b, o. -/
def Limbs (w : World) (b o : Nat) (c0 c1 c2 c3 c4 : Int) : Prop :=
  w.cell? ⟨b, o, none⟩ = some (.int .u64 c0) ∧ w.cell? ⟨b, o + 1, none⟩ = some (.int .u64 c1) ∧ w.cell? ⟨b, o + 2, none⟩ = some (.int .u64 c2) ∧ w.cell? ⟨b, o + 3, none⟩ = some (.int .u64 c3) ∧ w.cell? ⟨b, o + 4, none⟩ = some (.int .u64 c4)

/-- Five words that may be written at b, o. -/
def Room (w : World) (b o : Nat) : Prop :=
  (∃ c0 c1 c2 c3 c4 : Int, Limbs w b o c0 c1 c2 c3 c4) ∧ w.frozen? ⟨b, o, none⟩ = false ∧ w.frozen? ⟨b, o + 1, none⟩ = false ∧ w.frozen? ⟨b, o + 2, none⟩ = false ∧ w.frozen? ⟨b, o + 3, none⟩ = false ∧ w.frozen? ⟨b, o + 4, none⟩ = false

theorem and51 (x : Int) (h0 : 0 ≤ x) (h1 : x < 18446744073709551616) : bits .and .u64 x 2251799813685247 = x % 2251799813685248 :=
  bits_mask .u64 64 (by decide) (fun n h0 h1 => by rw [IntKind.wrap_u64]; omega) 51 (by decide) x h0 h1

/-- The five limbs behind the two rounds of carries. -/
def Carried (l0 l1 l2 l3 l4 c0 c1 c2 c3 c4 d0 d1 d2 d3 d4 : Int) : Prop :=
  d0 = (l0 + 19 * c4) % 2251799813685248 + 19 * ((l4 % 2251799813685248 + c3) / 2251799813685248) ∧
  d1 = (l1 + c0) % 2251799813685248 + (l0 % 2251799813685248 + 19 * c4) / 2251799813685248 ∧
  d2 = (l2 + c1) % 2251799813685248 + (l1 % 2251799813685248 + c0) / 2251799813685248 ∧
  d3 = (l3 + c2) % 2251799813685248 + (l2 % 2251799813685248 + c1) / 2251799813685248 ∧
  d4 = (l4 + c3) % 2251799813685248 + (l3 % 2251799813685248 + c2) / 2251799813685248

/-- The number of five limbs. -/
def val (c0 c1 c2 c3 c4 : Int) : Int := c0 + 2251799813685248 * c1 + 5070602400912917605986812821504 * c2 + 11417981541647679048466287755595961091061972992 * c3 + 25711008708143844408671393477458601640355247900524685364822016 * c4

/-- 2^255 - 19. -/
def pI : Int := 57896044618658097711785492504343953926634992332820282019728792003956564819949

/-- All five are below 2^52. -/
def Small (c0 c1 c2 c3 c4 : Int) : Prop :=
  (0 ≤ c0 ∧ c0 < 4503599627370496) ∧ (0 ≤ c1 ∧ c1 < 4503599627370496) ∧ (0 ≤ c2 ∧ c2 < 4503599627370496) ∧ (0 ≤ c3 ∧ c3 < 4503599627370496) ∧ (0 ≤ c4 ∧ c4 < 4503599627370496)

/-- All five are below 2^51 + 2^40: so the field's functions leave them. -/
def Tight (c0 c1 c2 c3 c4 : Int) : Prop :=
  (0 ≤ c0 ∧ c0 < 2252899325313024) ∧ (0 ≤ c1 ∧ c1 < 2252899325313024) ∧ (0 ≤ c2 ∧ c2 < 2252899325313024) ∧ (0 ≤ c3 ∧ c3 < 2252899325313024) ∧ (0 ≤ c4 ∧ c4 < 2252899325313024)

theorem Tight.small {c0 c1 c2 c3 c4 : Int} (h : Tight c0 c1 c2 c3 c4) : Small c0 c1 c2 c3 c4 := by
  obtain ⟨⟨h0, h1⟩, ⟨h2, h3⟩, ⟨h4, h5⟩, ⟨h6, h7⟩, ⟨h8, h9⟩⟩ := h
  exact ⟨⟨h0, by omega⟩, ⟨h2, by omega⟩, ⟨h4, by omega⟩, ⟨h6, by omega⟩, ⟨h8, by omega⟩⟩

theorem carried_val {l0 l1 l2 l3 l4 c0 c1 c2 c3 c4 d0 d1 d2 d3 d4 R0 R1 R2 R3 R4 : Int}
    (h : Carried l0 l1 l2 l3 l4 c0 c1 c2 c3 c4 d0 d1 d2 d3 d4)
    (e0 : c0 * 2251799813685248 + l0 % 2251799813685248 = R0) (e1 : c1 * 2251799813685248 + l1 % 2251799813685248 = R1) (e2 : c2 * 2251799813685248 + l2 % 2251799813685248 = R2)
    (e3 : c3 * 2251799813685248 + l3 % 2251799813685248 = R3) (e4 : c4 * 2251799813685248 + l4 % 2251799813685248 = R4)
    (n0 : 0 ≤ c0) (n1 : 0 ≤ c1) (n2 : 0 ≤ c2) (n3 : 0 ≤ c3) (n4 : 0 ≤ c4)
    (b0 : R0 < 2596148429267413814265248164610048) (b1 : R1 < 2596148429267413814265248164610048) (b2 : R2 < 2596148429267413814265248164610048) (b3 : R3 < 2596148429267413814265248164610048) (b4 : R4 < 162259276829213363391578010288128) :
    Tight d0 d1 d2 d3 d4 ∧ ∃ k : Int, val d0 d1 d2 d3 d4 + pI * k = val R0 R1 R2 R3 R4 := by
  obtain ⟨f0, f1, f2, f3, f4⟩ := h
  have m4 : c4 < 72057594037927936 := by omega
  have m0 : c0 < 1152921504606846976 := by omega
  have m1 : c1 < 1152921504606846976 := by omega
  have m2 : c2 < 1152921504606846976 := by omega
  have m3 : c3 < 1152921504606846976 := by omega
  refine ⟨⟨⟨by omega, by omega⟩, ⟨by omega, by omega⟩, ⟨by omega, by omega⟩, ⟨by omega, by omega⟩, ⟨by omega, by omega⟩⟩, (l4 % 2251799813685248 + c3) / 2251799813685248 + c4, ?_⟩
  unfold val pI
  omega

/-- The call wrote five limbs of a number that is V modulo 2^255 - 19 at b, o, and left all else that was there. -/
def Wrote (w : World) (b o : Nat) (V : Int) (v : Value) (e : Ending) (w' : World) : Prop :=
  ∃ (c0 c1 c2 c3 c4 k : Int) (W : World), e = .returned v ∧ Below w.heap.size w W ∧ w' = put5 W b o c0 c1 c2 c3 c4 ∧ Tight c0 c1 c2 c3 c4 ∧ val c0 c1 c2 c3 c4 + pI * k = V

end Go.Proofs.YtflmkgecgijncaaDoor
