/-
  The ladder's words: bytes of a scalar, its bits, the state of the ladder.
-/
import Derived.Test.YtflmkgecgijncaaDoorF15
import Derived.Laws.CopyOwn
import Derived.Deep.RegionLaw
namespace Go.Proofs.YtflmkgecgijncaaDoor
open Go.RowKit Go.Shelf

theorem size5 : (Tryd.prog.info? 5).map (·.size) = some 1 := by kernel_rfl

/-- The bytes f as values. -/
def bvals (f : Nat → Int) : List Value := (List.range 32).map (fun j => .int .u8 (f j))

theorem bvals_get (f : Nat → Int) (j : Nat) (hj : j < 32) : (bvals f)[j]? = some (.int .u8 (f j)) := by
  unfold bvals
  rw [List.getElem?_map, List.getElem?_range hj]; rfl

theorem bvals_len (f : Nat → Int) : (bvals f).length = 32 := by simp [bvals]

theorem splice_all {cur : List Value} {f : Nat → Int} (h : cur.length = 32) : splice cur 0 (bvals f) = bvals f := by
  unfold splice
  rw [bvals_len, List.take_zero, List.nil_append, Nat.zero_add, List.drop_of_length_le (by omega), List.append_nil]

/-- A block of 32 bytes. -/
def Arr (w : World) (b : Nat) (f : Nat → Int) : Prop := w.heap[b]? = some (.cells (bvals f).toArray 22 (0, 0))

theorem Arr.bytes {w : World} {b : Nat} {f : Nat → Int} (h : Arr w b f) : Bytes w b 0 32 f := by
  intro j hj
  unfold World.cell?
  rw [h]
  simp [bvals_get f j hj]

theorem Arr.frozen {w : World} {b : Nat} {f : Nat → Int} (h : Arr w b f) (j : Nat) : w.frozen? ⟨b, j, none⟩ = false := by
  unfold World.frozen?
  rw [h]
  simp

/-- The clamped scalar's bytes. -/
def cl (f : Nat → Int) (j : Nat) : Int := if j = 0 then f 0 / 8 * 8 else if j = 31 then f 31 % 64 + 64 else f j

theorem cl_byt {f : Nat → Int} (hf : Byt f) : Byt (cl f) := by
  intro j
  unfold cl
  have h0 := hf 0
  have h1 := hf 31
  have h2 := hf j
  split
  · omega
  · split <;> omega

theorem and248 (x : Int) (h0 : 0 ≤ x) (h1 : x ≤ 255) : bits .and .u8 x 248 = x / 8 * 8 := by
  obtain ⟨x, rfl⟩ := Int.eq_ofNat_of_zero_le h0
  have h : bits .and .u8 (x : Int) 248 = ((x &&& 248 : Nat) : Int) := (bits_nat .u8 8 (by decide) wraps_u8 x 248 (by omega) (by omega)).1
  rw [h]
  have : ∀ y : Fin 256, (y.val &&& 248 : Nat) = y.val / 8 * 8 := by decide +kernel
  have := this ⟨x, by omega⟩
  simp only at this
  omega
theorem and127 (x : Int) (h0 : 0 ≤ x) (h1 : x ≤ 255) : bits .and .u8 x 127 = x % 128 := bits_mask .u8 8 (by decide) wraps_u8 7 (by decide) x h0 (by omega)
theorem or64 (x : Int) (h0 : 0 ≤ x) (h1 : x < 128) : bits .or .u8 x 64 = x % 64 + 64 := by
  obtain ⟨x, rfl⟩ := Int.eq_ofNat_of_zero_le h0
  have h : bits .or .u8 (x : Int) 64 = ((x ||| 64 : Nat) : Int) := (bits_nat .u8 8 (by decide) wraps_u8 x 64 (by omega) (by omega)).2
  rw [h]
  have : ∀ y : Fin 128, (y.val ||| 64 : Nat) = y.val % 64 + 64 := by decide +kernel
  have := this ⟨x, by omega⟩
  simp only at this
  omega

theorem copy_in {ops : Array Oper} {rest : List Oper} {o : Oper} {a : Act} {Q : Exit → Act → World → Prop} (hgd : o.guard = none) (d s : Operand)
    (ho : o.op = .call { callee := .builtin .copy, args := #[d, s], argTypes := #[36, 36] }) (g bs os dc sc : Nat) (W w0 : World) (cur : List Value) (f : Nat → Int)
    (hd : a.eval d = .slice (some ⟨g, 0, none⟩) 32 dc) (hs : a.eval s = .slice (some ⟨bs, os, none⟩) 32 sc) (hg : W.heap[g]? = some (.cells cur.toArray 22 (0, 0))) (hcur : cur.length = 32)
    (hf : Bytes W bs os 32 f) (B : Nat) (hb : Below B w0 W) (hBg : B ≤ g)
    (h : ∀ w', Hid (Arr w' g f) → Below B w0 w' → wpList Tryd.prog ops Q rest (a.put o.dst (.int .i64 32)) w') : wpList Tryd.prog ops Q (o :: rest) a W := by
  refine wpList_copy_splice hgd d s 36 36 ho 5 Tryd.underlying36 size5 (some ⟨g, 0, none⟩) (some ⟨bs, os, none⟩) 32 dc 32 sc hd hs g 0 cur 22 hg (bvals f) (bvals_len f) (fun _ => ⟨rfl, _, rfl, fun j v hv => ?_⟩) (by rw [bvals_len]; omega) ?_ B w0 hb hBg ?_
  · have hj : j < 32 := by have := (List.getElem?_eq_some_iff.1 hv).1; rwa [bvals_len] at this
    rw [bvals_get f j hj] at hv
    rw [Addr.add_lit, hf j hj]; exact hv
  · intro v hv
    unfold bvals at hv
    obtain ⟨j, _, rfl⟩ := List.mem_map.1 hv; rfl
  · intro w' h1 h2
    have h1' := h1.out
    rw [splice_all hcur] at h1'
    have := h w' (hid h1') h2
    rwa [bvals_len]

theorem step_copy_in {ops : Array Oper} {o : Oper} {a : Act} {w : World} {K : Act → World → Prop} {Q : Exit → Act → World → Prop} {E : Prop} (hgd : o.guard = none) (d s : Operand)
    (ho : o.op = .call { callee := .builtin .copy, args := #[d, s], argTypes := #[36, 36] }) (g b dc sc : Nat) (cur : List Value) (f : Nat → Int)
    (hd : a.eval d = .slice (some ⟨g, 0, none⟩) 32 dc) (hs : a.eval s = .slice (some ⟨b, 0, none⟩) 32 sc) (hg : Hid (w.heap[g]? = some (.cells cur.toArray 22 (0, 0)) ∧ cur.length = 32))
    (hf : Hid (Bytes w b 0 32 f)) (B : Nat) (w0 : World) (hb : Hid (Below B w0 w ∧ B ≤ g))
    (h : ∀ w', Hid (Arr w' g f) → Hid (Below B w0 w') → K (a.put o.dst (.int .i64 32)) w') : if Region.wanted o (yielded ops a.tmps) = true then Oper.wp Tryd.prog o a w K Q else E := by
  refine step_copy_splice hgd d s 36 36 ho 5 Tryd.underlying36 size5 (some ⟨g, 0, none⟩) (some ⟨b, 0, none⟩) 32 dc 32 sc hd hs g 0 cur 22 hg.out.1 (bvals f) (bvals_len f) (fun _ => ⟨rfl, _, rfl, fun j v hv => ?_⟩) (by rw [bvals_len, hg.out.2]; omega) ?_ B w0 hb.out.1 hb.out.2 ?_
  · have hj : j < 32 := by have := (List.getElem?_eq_some_iff.1 hv).1; rwa [bvals_len] at this
    rw [bvals_get f j hj] at hv
    rw [Addr.add_lit, hf.out j hj]; exact hv
  · intro v hv
    unfold bvals at hv
    obtain ⟨j, _, rfl⟩ := List.mem_map.1 hv; rfl
  · intro w' h1 h2
    have h1' := h1.out
    rw [splice_all hg.out.2] at h1'
    have := h w' (hid h1') (hid h2)
    rwa [bvals_len]

/-- 0 or 1. -/
def bi (c : Bool) : Int := if c then 1 else 0
theorem bi_lo (c : Bool) : 0 ≤ bi c := by cases c <;> decide
theorem bi_hi (c : Bool) : bi c ≤ 1 := by cases c <;> decide
theorem bi_xor (c d : Bool) : bits .xor .i64 (bi c) (bi d) = bi (c != d) := by cases c <;> cases d <;> decide +kernel

/-- The second where c, else the first. -/
def sel (c : Bool) (a b : Int) : Int := if c then b else a

theorem Swap_any (c : Bool) (bv ov bu ou : Nat) (A B : Int) (w : World) (ha : E5 w bv ov A) (hb : E5 w bu ou B) (hne : bv ≠ bu) :
    Calls Tryd.prog 65 #[.pointer (some ⟨bv, ov, none⟩), .pointer (some ⟨bu, ou, none⟩), .int .i64 (bi c)] w (Swapped w bv ov bu ou (sel c A B) (sel c B A)) := by
  cases c
  · exact Swap0_any bv ov bu ou A B w ha hb hne
  · exact Swap1_any bv ov bu ou A B w ha hb hne

theorem E5.keep2 {w w' : World} {b1 b2 b o : Nat} {X : Int} (h : E5 w b o X) (hu : Upd2 w w' b1 b2) (n1 : b ≠ b1) (n2 : b ≠ b2) : E5 w' b o X := by
  have hb := h.lt
  have e := hu.block b hb n1 n2
  have c : ∀ j, w'.cell? ⟨b, j, none⟩ = w.cell? ⟨b, j, none⟩ := fun j => World.cell?_of_block (w := w) (a := ⟨b, j, none⟩) e
  have f : ∀ j, w'.frozen? ⟨b, j, none⟩ = w.frozen? ⟨b, j, none⟩ := fun j => World.frozen?_of_block (w := w) (a := ⟨b, j, none⟩) e
  obtain ⟨⟨c0, c1, c2, c3, c4, ⟨h0, h1, h2, h3, h4⟩, t, q⟩, ⟨f0, f1, f2, f3, f4⟩⟩ := h
  exact ⟨⟨c0, c1, c2, c3, c4, ⟨(c _).trans h0, (c _).trans h1, (c _).trans h2, (c _).trans h3, (c _).trans h4⟩, t, q⟩, ⟨(f _).trans f0, (f _).trans f1, (f _).trans f2, (f _).trans f3, (f _).trans f4⟩⟩

theorem Room.keep2 {w w' : World} {b1 b2 b o : Nat} (h : Room w b o) (hu : Upd2 w w' b1 b2) (n1 : b ≠ b1) (n2 : b ≠ b2) : Room w' b o := by
  have hb := h.lt
  have e := hu.block b hb n1 n2
  have c : ∀ j, w'.cell? ⟨b, j, none⟩ = w.cell? ⟨b, j, none⟩ := fun j => World.cell?_of_block (w := w) (a := ⟨b, j, none⟩) e
  have f : ∀ j, w'.frozen? ⟨b, j, none⟩ = w.frozen? ⟨b, j, none⟩ := fun j => World.frozen?_of_block (w := w) (a := ⟨b, j, none⟩) e
  obtain ⟨⟨c0, c1, c2, c3, c4, ⟨h0, h1, h2, h3, h4⟩⟩, ⟨f0, f1, f2, f3, f4⟩⟩ := h
  exact ⟨⟨c0, c1, c2, c3, c4, ⟨(c _).trans h0, (c _).trans h1, (c _).trans h2, (c _).trans h3, (c _).trans h4⟩⟩, ⟨(f _).trans f0, (f _).trans f1, (f _).trans f2, (f _).trans f3, (f _).trans f4⟩⟩

theorem Bytes.keep2 {w W : World} {b o n b1 b2 : Nat} {f : Nat → Int} (h : Bytes w b o n f) (hu : Upd2 w W b1 b2) (n1 : b ≠ b1) (n2 : b ≠ b2) : Bytes W b o n f := by
  intro j hj
  have hc := h j hj
  rw [World.cell?_of_block (w := w) (a := ⟨b, o + j, none⟩) (hu.block b (World.block_lt_of_cell? _ _ hc) n1 n2)]; exact hc

theorem Upd2.below {w w' : World} {b1 b2 B : Nat} (h : Upd2 w w' b1 b2) (h1 : B ≤ b1) (h2 : B ≤ b2) (hB : B ≤ w.heap.size) : Below B w w' :=
  ⟨h.os, h.tape, h.output, h.size, fun k hk => h.block k (by omega) (by omega) (by omega)⟩

/-- Bit t of the clamped scalar. -/
def kb (f : Nat → Int) (t : Nat) : Bool := cl f (t / 8) / 2 ^ (t % 8) % 2 == 1

theorem kb_bit {f : Nat → Int} (hf : Byt f) (t : Nat) : bits .and .u8 (cl f (t / 8) / 2 ^ (t % 8)) 1 = bi (kb f t) := by
  have h := cl_byt hf (t / 8)
  unfold kb
  generalize cl f (t / 8) = y at *
  have hp : (0 : Int) < 2 ^ (t % 8) := Int.pow_pos (by decide)
  have h0 : 0 ≤ y / 2 ^ (t % 8) := Int.ediv_nonneg h.1 (Int.le_of_lt hp)
  have h1 : y / 2 ^ (t % 8) ≤ 255 := Int.le_trans (Int.ediv_le_self _ h.1) h.2
  generalize y / 2 ^ (t % 8) = z at *
  have e : bits .and .u8 z 1 = z % 2 := bits_mask .u8 8 (by decide) wraps_u8 1 (by decide) z h0 (by omega)
  rw [e]
  have : z % 2 = 0 ∨ z % 2 = 1 := by omega
  rcases this with h | h <;> rw [h] <;> rfl

/-- One round of the ladder, behind the exchange. -/
def pstep (x1 x2 z2 x3 z3 : Int) : Int × Int × Int × Int :=
  ((x2 + z2) * (x2 + z2) * ((x2 - z2) * (x2 - z2)),
   ((x2 + z2) * (x2 + z2) - (x2 - z2) * (x2 - z2)) * ((x2 - z2) * (x2 - z2) + ((x2 + z2) * (x2 + z2) - (x2 - z2) * (x2 - z2)) * 121666),
   ((x3 - z3) * (x2 + z2) + (x3 + z3) * (x2 - z2)) * ((x3 - z3) * (x2 + z2) + (x3 + z3) * (x2 - z2)),
   x1 * (((x3 - z3) * (x2 + z2) - (x3 + z3) * (x2 - z2)) * ((x3 - z3) * (x2 + z2) - (x3 + z3) * (x2 - z2))))

/-- The ladder behind j rounds: its four numbers, and whether they are exchanged. -/
def pst (x1 : Int) (k : Nat → Bool) : Nat → (Int × Int × Int × Int) × Bool
  | 0 => ((1, 0, x1, 1), false)
  | j + 1 =>
    let s := pst x1 k j
    let b := k (254 - j)
    let c := s.2 != b
    (pstep x1 (sel c s.1.1 s.1.2.2.1) (sel c s.1.2.1 s.1.2.2.2) (sel c s.1.2.2.1 s.1.1) (sel c s.1.2.2.2 s.1.2.1), b)

/-- What holds at the head of each round. -/
structure LInv (w : World) (n N : Nat) (f : Nat → Int) (u : Int) (sw pos : Value) (wr : World) (j : Nat) : Prop where
  le : j ≤ 255
  pos : pos = .int .i64 (254 - (j : Int))
  sw : sw = .int .i64 (bi (pst u (kb f) j).2)
  x1 : E5 wr N 0 u
  x2 : E5 wr (N + 1) 0 (pst u (kb f) j).1.1
  z2 : E5 wr (N + 2) 0 (pst u (kb f) j).1.2.1
  x3 : E5 wr (N + 3) 0 (pst u (kb f) j).1.2.2.1
  z3 : E5 wr (N + 4) 0 (pst u (kb f) j).1.2.2.2
  t0 : Room wr (N + 5) 0
  t1 : Room wr (N + 6) 0
  by0 : Bytes wr n 0 32 (cl f)
  bel : Below n w wr
  size : N + 7 ≤ wr.heap.size

end Go.Proofs.YtflmkgecgijncaaDoor
