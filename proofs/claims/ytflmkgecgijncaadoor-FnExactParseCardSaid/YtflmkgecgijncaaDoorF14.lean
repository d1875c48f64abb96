/-
  lePutUint64, bytes, Bytes: an element as 32 bytes.
-/
import Derived.Test.YtflmkgecgijncaaDoorF13
namespace Go.Proofs.YtflmkgecgijncaaDoor
open Go.RowKit Go.Shelf

/-- The cells from o on are n bytes that may be written. -/
def BRoom (w : World) (b o n : Nat) : Prop := ∀ j, j < n → (w.cell? ⟨b, o + j, none⟩).isSome = true ∧ w.frozen? ⟨b, o + j, none⟩ = false

/-- The first k bytes of x have been written. -/
structure AccB (w W : World) (b o k : Nat) (x : Int) : Prop where
  upd : Upd w W b o k
  got : ∀ j, j < k → W.cell? ⟨b, o + j, none⟩ = some (.int .u8 (x / 2 ^ (8 * j) % 256))

theorem AccB.start (w : World) (b o : Nat) (x : Int) : AccB w w b o 0 x := ⟨Upd.refl _ _ _ _, fun j hj => by omega⟩
theorem AccB.next {w W : World} {b o k : Nat} {x v : Int} (h : AccB w W b o k x) (hs : (W.cell? ⟨b, o + k, none⟩).isSome = true) (hv : v = x / 2 ^ (8 * k) % 256) :
    AccB w (W.setCell ⟨b, o + k, none⟩ (.int .u8 v)) b o (k + 1) x := by
  refine ⟨h.upd.more.setCell (by omega) (by omega) _, fun j hj => ?_⟩
  by_cases e : k = j
  · subst e; rw [limbs_put hs rfl, hv]
  · rw [limbs_past (by omega)]; exact h.got j (by omega)

set_option maxHeartbeats 1000000 in
theorem lePut_any (b o n c : Nat) (x : Int) (w : World) (hr : BRoom w b o 8) (hn : 8 ≤ n) (hn' : n ≤ 1000) :
    Calls Tryd.prog 99 #[.slice (some ⟨b, o, none⟩) n c, .int .u64 x] w fun e w' => e = .returned (.tuple #[]) ∧ AccB w w' b o 8 x := by
  have HR : Hid (BRoom w b o 8) := hid hr
  clear hr
  go_enter Tryd.func99, Tryd.ntmps99
  go_wp2_with fail
  go_loopw [4] (fun i wr => ∃ k : Nat, k ≤ 8 ∧ i = .int .i64 k ∧ AccB w wr b o k x) (fun i _ => 8 - (intOf i).toNat)
  case atStart => exact ⟨0, by omega, rfl, AccB.start _ _ _ _⟩
  case round =>
    obtain ⟨k, hk, rfl, hacc⟩ := hrel
    have A : Hid (AccB w wr b o k x) := hid hacc
    clear hacc
    by_cases hlt : k < 8
    · have hs : Hid ((wr.cell? ⟨b, o + k, none⟩).isSome = true) := hid (by rw [A.out.upd.cell _ (by omega)]; exact (HR.out k hlt).1)
      have hf : wr.frozen? ⟨b, o + k, none⟩ = false := by rw [A.out.upd.froz]; exact (HR.out k hlt).2
      obtain ⟨z, hz⟩ := Option.isSome_iff_exists.1 hs.out
      go_wp2_with fail
      go_roundw
      case rel => exact ⟨k + 1, by omega, by go_num, A.out.next hs.out rfl⟩
      case measure => simp [intOf]; omega
    · obtain rfl : k = 8 := by omega
      go_wp2_with fail
      go_end0
      exact ⟨rfl, A.out⟩

/-- The four words of a number below 2^255. -/
def Words (R u0 u1 u2 u3 : Int) : Prop :=
  u0 = R % 18446744073709551616 ∧ u1 = R / 18446744073709551616 % 18446744073709551616 ∧ u2 = R / 340282366920938463463374607431768211456 % 18446744073709551616 ∧ u3 = R / 6277101735386680763835789423207666416102355444464034512896 % 18446744073709551616

theorem pack {n0 n1 n2 n3 n4 : Int} (hn : (0 ≤ n0 ∧ n0 < 2251799813685248) ∧ (0 ≤ n1 ∧ n1 < 2251799813685248) ∧ (0 ≤ n2 ∧ n2 < 2251799813685248) ∧ (0 ≤ n3 ∧ n3 < 2251799813685248) ∧ (0 ≤ n4 ∧ n4 < 2251799813685248)) :
    ∃ y1 y2 y3 u0 u1 u2 u3 : Int, IntKind.u64.wrap (n1 * 2251799813685248) = y1 ∧ IntKind.u64.wrap (n2 * 274877906944) = y2 ∧ IntKind.u64.wrap (n3 * 33554432) = y3 ∧
      bits .or .u64 y1 n0 = u0 ∧ bits .or .u64 y2 (n1 / 8192) = u1 ∧ bits .or .u64 y3 (n2 / 67108864) = u2 ∧ bits .or .u64 (n4 * 4096) (n3 / 549755813888) = u3 ∧ Words (val n0 n1 n2 n3 n4) u0 u1 u2 u3 := by
  obtain ⟨⟨b0, c0⟩, ⟨b1, c1⟩, ⟨b2, c2⟩, ⟨b3, c3⟩, ⟨b4, c4⟩⟩ := hn
  refine ⟨_, _, _, _, _, _, _, rfl, rfl, rfl, rfl, rfl, rfl, rfl, ?_⟩
  rw [IntKind.wrap_u64, IntKind.wrap_u64, IntKind.wrap_u64]
  rw [or_u64 51 (by decide) (n1 * 2251799813685248 % 18446744073709551616) n0 (by omega) (by omega) (by omega) (by omega) (by omega),
    or_u64 38 (by decide) (n2 * 274877906944 % 18446744073709551616) (n1 / 8192) (by omega) (by omega) (by omega) (by omega) (by omega),
    or_u64 25 (by decide) (n3 * 33554432 % 18446744073709551616) (n2 / 67108864) (by omega) (by omega) (by omega) (by omega) (by omega),
    or_u64 12 (by decide) (n4 * 4096) (n3 / 549755813888) (by omega) (by omega) (by omega) (by omega) (by omega)]
  unfold Words val
  exact ⟨by omega, by omega, by omega, by omega⟩

/-- Byte j of a number. -/
def byteOf (R : Int) (j : Nat) : Int := R / 2 ^ (8 * j) % 256

theorem byteOf_byt (R : Int) : Byt (byteOf R) := fun j => by unfold byteOf; omega

/-- The call returned v and wrote the 32 bytes of the number below 2^255 - 19 that is V modulo it at b, o. -/
def Told (w : World) (b o : Nat) (V : Int) (v : Value) (e : Ending) (w' : World) : Prop := e = .returned v ∧ Upd w w' b o 32 ∧ Bytes w' b o 32 (byteOf (V % pI))

theorem BRoom.part {w W : World} {b o i : Nat} (h : BRoom w b o 32) (hu : Upd w W b o i) (hi : i + 8 ≤ 32) : BRoom W b (o + i) 8 := by
  intro j hj
  rw [hu.cell _ (by omega), hu.froz, Nat.add_assoc]
  exact h (i + j) (by omega)

theorem byte_word (R : Int) (i j : Nat) (hj : j < 8) : R / 2 ^ (64 * i) % 18446744073709551616 / 2 ^ (8 * j) % 256 = byteOf R (8 * i + j) := by
  unfold byteOf
  have e : (2 : Int) ^ (8 * (8 * i + j)) = 2 ^ (64 * i) * 2 ^ (8 * j) := by rw [← Int.pow_add]; congr 1; omega
  rw [e, ← Int.ediv_ediv_of_nonneg (Int.le_of_lt (Int.pow_pos (by decide)))]
  generalize R / 2 ^ (64 * i) = z
  have : j = 0 ∨ j = 1 ∨ j = 2 ∨ j = 3 ∨ j = 4 ∨ j = 5 ∨ j = 6 ∨ j = 7 := by omega
  rcases this with rfl | rfl | rfl | rfl | rfl | rfl | rfl | rfl <;> omega

theorem Upd.grow {w W W' : World} {b o i : Nat} (h : Upd w W b o i) (g : Upd W W' b (o + i) 8) : Upd w W' b o (i + 8) :=
  ⟨g.os.trans h.os, g.tape.trans h.tape, g.output.trans h.output, Nat.le_trans h.size g.size, fun k hk hb => (g.block k (Nat.lt_of_lt_of_le hk h.size) hb).trans (h.block k hk hb),
    fun j hj => (g.cell j (by omega)).trans (h.cell j (by omega)), fun j => (g.froz j).trans (h.froz j)⟩

theorem told_mk {w w1 w2 w3 w4 w5 : World} {b o : Nat} {V u0 u1 u2 u3 : Int} {v : Value} (hb : b < w.heap.size) (h1 : Below w.heap.size w w1)
    (a0 : AccB w1 w2 b o 8 u0) (a1 : AccB w2 w3 b (o + 8) 8 u1) (a2 : AccB w3 w4 b (o + 16) 8 u2) (a3 : AccB w4 w5 b (o + 24) 8 u3) (hw : Words (V % pI) u0 u1 u2 u3) :
    Told w b o V v (.returned v) w5 := by
  obtain ⟨rfl, rfl, rfl, rfl⟩ := hw
  refine ⟨rfl, (Upd.of_below b o 32 h1 hb).trans (((a0.upd.grow a1.upd).grow a2.upd).grow a3.upd), fun j hj => ?_⟩
  by_cases c1 : j < 8
  · rw [a3.upd.cell _ (by omega), a2.upd.cell _ (by omega), a1.upd.cell _ (by omega), a0.got j c1]
    have := byte_word (V % pI) 0 j c1
    rw [show 8 * 0 + j = j from by omega] at this
    rw [← this]; simp
  by_cases c2 : j < 16
  · rw [a3.upd.cell _ (by omega), a2.upd.cell _ (by omega)]
    have h := a1.got (j - 8) (by omega)
    rw [show o + 8 + (j - 8) = o + j from by omega] at h
    rw [h]
    have := byte_word (V % pI) 1 (j - 8) (by omega)
    rw [show 8 * 1 + (j - 8) = j from by omega] at this
    rw [← this]; simp
  by_cases c3 : j < 24
  · rw [a3.upd.cell _ (by omega)]
    have h := a2.got (j - 16) (by omega)
    rw [show o + 16 + (j - 16) = o + j from by omega] at h
    rw [h]
    have := byte_word (V % pI) 2 (j - 16) (by omega)
    rw [show 8 * 2 + (j - 16) = j from by omega] at this
    rw [← this]; simp
  · have h := a3.got (j - 24) (by omega)
    rw [show o + 24 + (j - 24) = o + j from by omega] at h
    rw [h]
    have := byte_word (V % pI) 3 (j - 24) (by omega)
    rw [show 8 * 3 + (j - 24) = j from by omega] at this
    rw [← this]; simp

set_option maxRecDepth 100000 in
set_option maxHeartbeats 4000000 in
theorem bytes_any (bv ov bo oo : Nat) (V : Int) (w : World) (hv : E5 w bv ov V) (hr : BRoom w bo oo 32) (hb : bo < w.heap.size) :
    Calls Tryd.prog 82 #[.pointer (some ⟨bv, ov, none⟩), .pointer (some ⟨bo, oo, none⟩)] w (Told w bo oo V (.slice (some ⟨bo, oo, none⟩) 32 32)) := by
  obtain ⟨⟨a0, a1, a2, a3, a4, la, ta, ca⟩, fa⟩ := hv
  obtain ⟨q0, q1, q2, q3, q4⟩ := la
  have T : Hid (Tight a0 a1 a2 a3 a4 ∧ Cg (val a0 a1 a2 a3 a4) V) := hid ⟨ta, ca⟩
  have HR : Hid (BRoom w bo oo 32) := hid hr
  clear ta ca fa hr
  go_enter Tryd.func82, Tryd.ntmps82
  go_wp2_with fail
  have hE : E5 (w.alloc (.cells #[.int .u64 a0, .int .u64 a1, .int .u64 a2, .int .u64 a3, .int .u64 a4] 80)) w.heap.size 0 V :=
    ⟨⟨a0, a1, a2, a3, a4, by simp [Limbs, go_sem], T.out⟩, by simp [Free, go_sem]⟩
  have hbl : Below w.heap.size w (w.alloc (.cells #[.int .u64 a0, .int .u64 a1, .int .u64 a2, .int .u64 a3, .int .u64 a4] 80)) := (Below.refl _ _).alloc (Nat.le_refl _) _
  refine (reduce_any w.heap.size 0 V _ hE).mono ?_
  rintro e w1 ⟨n0, n1, n2, n3, n4, rfl, hl, hu, hn, hval⟩
  obtain ⟨y1, y2, y3, u0, u1, u2, u3, hy1, hy2, hy3, hu0, hu1, hu2, hu3, hw⟩ := pack hn
  obtain ⟨⟨b0, c0⟩, ⟨b1, c1⟩, ⟨b2, c2⟩, ⟨b3, c3⟩, ⟨b4, c4⟩⟩ := hn
  have BL : Hid (Below w.heap.size w w1) := hid (hbl.trans (hu.below (Nat.le_refl _) (by simp)))
  rw [hval] at hw
  have WD : Hid (Words (V % pI) u0 u1 u2 u3) := hid hw
  obtain ⟨l0, l1, l2, l3, l4⟩ := hl
  rw [Nat.zero_add] at l1 l2 l3 l4
  clear hE hbl hu hval hw q0 q1 q2 q3 q4
  go_wp2_with fail
  have R1 : Hid (BRoom w1 bo oo 32) := hid (fun j hj => by rw [BL.out.cell (p := ⟨bo, oo + j, none⟩) hb, BL.out.frozen (p := ⟨bo, oo + j, none⟩) hb]; exact HR.out j hj)
  refine (lePut_any bo oo 32 _ u0 _ (R1.out.part (Upd.refl w1 bo oo 0) (by decide)) (by decide) (by decide)).mono ?_
  rintro e w2 ⟨rfl, a0⟩
  have A0 : Hid (AccB w1 w2 bo oo 8 u0) := hid a0
  clear a0 l0 l1 l2 l3 l4
  go_wp2_with fail
  refine (lePut_any bo (oo + 8) 24 _ u1 _ (R1.out.part A0.out.upd (by decide)) (by decide) (by decide)).mono ?_
  rintro e w3 ⟨rfl, a1⟩
  have A1 : Hid (AccB w2 w3 bo (oo + 8) 8 u1) := hid a1
  clear a1
  go_wp2_with fail
  refine (lePut_any bo (oo + 16) 16 _ u2 _ (R1.out.part (A0.out.upd.grow A1.out.upd) (by decide)) (by decide) (by decide)).mono ?_
  rintro e w4 ⟨rfl, a2⟩
  have A2 : Hid (AccB w3 w4 bo (oo + 16) 8 u2) := hid a2
  clear a2
  go_wp2_with fail
  refine (lePut_any bo (oo + 24) 8 _ u3 _ (R1.out.part ((A0.out.upd.grow A1.out.upd).grow A2.out.upd) (by decide)) (by decide) (by decide)).mono ?_
  rintro e w5 ⟨rfl, a3⟩
  have A3 : Hid (AccB w4 w5 bo (oo + 24) 8 u3) := hid a3
  clear a3
  go_wp2_with fail
  go_ret
  exact told_mk hb BL.out A0.out A1.out A2.out A3.out WD.out

theorem broom_new (w : World) (cs : Array Value) (t : TypeId) (hs : cs.size = 32) : BRoom (w.alloc (.cells cs t)) w.heap.size 0 32 := by
  intro j hj
  have hh := heap_alloc_new w (.cells cs t)
  have h1 : (w.alloc (.cells cs t)).cell? ⟨w.heap.size, 0 + j, none⟩ = cs[j]? := by
    unfold World.cell?; rw [hh]; simp
  have h2 : (w.alloc (.cells cs t)).frozen? ⟨w.heap.size, 0 + j, none⟩ = false := by
    unfold World.frozen?; rw [hh]; simp
  rw [h1, h2]
  exact ⟨by simp [hs, hj], rfl⟩

/-- Bytes: 32 bytes in new memory. -/
def ToldNew (w : World) (V : Int) (e : Ending) (w' : World) : Prop :=
  ∃ b : Nat, e = .returned (.slice (some ⟨b, 0, none⟩) 32 32) ∧ w.heap.size ≤ b ∧ Below w.heap.size w w' ∧ Bytes w' b 0 32 (byteOf (V % pI))

set_option maxRecDepth 100000 in
set_option maxHeartbeats 1000000 in
theorem Bytes_any (bv ov : Nat) (V : Int) (w : World) (hv : E5 w bv ov V) :
    Calls Tryd.prog 72 #[.pointer (some ⟨bv, ov, none⟩)] w (ToldNew w V) := by
  have HV : Hid (E5 w bv ov V) := hid hv
  clear hv
  go_enter Tryd.func72, Tryd.ntmps72
  go_wp2_with fail
  refine (bytes_any bv ov w.heap.size 0 V _ (HV.out.below ((Below.refl _ _).alloc (Nat.le_refl _) _) HV.out.lt) (broom_new w _ 22 rfl) (by simp)).mono ?_
  rintro e w1 ⟨rfl, hu, hby⟩
  have U : Hid (Below w.heap.size w w1 ∧ Bytes w1 w.heap.size 0 32 (byteOf (V % pI))) := hid ⟨((Below.refl _ _).alloc (Nat.le_refl _) _).trans (hu.below (Nat.le_refl _) (by simp)), hby⟩
  clear hu hby
  go_wp2_with fail
  go_ret
  exact ⟨_, rfl, Nat.le_refl _, U.out⟩
end Go.Proofs.YtflmkgecgijncaaDoor
