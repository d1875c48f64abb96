/-
  laws.FnIsZero answers true at every list of bytes: impl.IsZero tells that all bytes are nought if and only if all of them are.
  No condition: every slice of bytes that can be read as data (the law itself answers true beyond 2147483647 bytes).
-/
import Derived.Test.YtflmkgecgijncaaRows
import Derived.WalkKit
import Derived.WalkSpells
import Derived.WalkLawsBesides
import Derived.ProofKit
import Derived.Below
import Derived.OwnWalk
import Derived.LoopTactic
import Derived.Lib.SliceRun

namespace Go.Proofs.Ytflmkgecgijncaa
open Go.RowKit Go.Lib

theorem hid {p : Prop} (h : p) : Hid p := h

def allZero (zs : List Int) (k : Nat) : Bool := decide (∀ j, j < k → zs.getD j 0 = 0)
theorem allZero_snoc (zs : List Int) (k : Nat) : allZero zs (k + 1) = (allZero zs k && (zs.getD k 0 == 0)) := by
  unfold allZero
  rw [Bool.eq_iff_iff]
  simp only [decide_eq_true_eq, Bool.and_eq_true, beq_iff_eq]
  constructor
  · intro h; exact ⟨fun j hj => h j (by omega), h k (by omega)⟩
  · rintro ⟨h1, h2⟩ j hj
    by_cases hjk : j < k
    · exact h1 j hjk
    · obtain rfl : j = k := by omega
      exact h2

theorem allZero_take (zs : List Int) (n : Nat) : allZero (zs.take n) n = allZero zs n := by
  unfold allZero
  apply decide_eq_decide.2
  constructor
  · intro h j hj; have := h j hj; simpa [List.getD, hj] using this
  · intro h j hj; have := h j hj; simpa [List.getD, hj] using this

theorem info5 : (Try.prog.info? 5).map (fun i => (i.zero, i.size, i.bytes)) = some (some (.int .u8 0), 1, 1) := by kernel_rfl

set_option maxHeartbeats 1000000 in
theorem clone_any (b off n c : Nat) (zs : List Int) (w : World) (hz : n ≤ zs.length) (hbig : n ≤ 140737488355328) (hc : ∀ j, j < zs.length → w.cell? ⟨b, off + j, none⟩ = some (.int .u8 (zs.getD j 0))) :
    Calls Try.prog 6 #[.slice (some ⟨b, off, none⟩) n c] w fun e w' => ∃ v', e = .returned v' ∧ w'.ownsRow w.heap.size 5 1 v' n ((zs.take n).map (Value.int .u8)) ∧ v' ≠ .slice none 0 0 ∧ Below w.heap.size w w' := by
  obtain ⟨i0, hi, hz0, hz1, hz2⟩ := info_parts info5
  have q22 : ∀ (w : World) (a : Option Addr) (n c n' c' : Nat), (binOp .eql 22 (.slice a n c) (.slice none n' c')).run Try.prog w = .ok (.bool a.isNone) w := fun w a n c n' c' => Lib.run_eql_slice_nil w _ _ a n c n' c' Try.underlying22
  have A : Hid (∀ j, j < zs.length → w.cell? ⟨b, off + j, none⟩ = some (.int .u8 (zs.getD j 0))) := hid hc
  clear hc
  go_enter Try.func6, Try.ntmps6
  go_wp2_with (at_builtin; refine wpList_append_own _ rfl _ _ 22 rfl w.heap.size 5 i0 (.int .u8 0) 1 1 Try.underlying22 hi hz0 hz1 hz2 rfl (by decide) _ _ _ rfl (World.ownsRow_made w #[] 0 (Nat.le_refl _) (Nat.zero_le _) rfl) ⟨b, off, none⟩ n c ((zs.take n).map (Value.int .u8)) rfl ?qc1 ?qc2 ?qc3 ?qc4 ?qc5 ?qc6 ?_)
  case qc1 => simp; omega
  case qc2 =>
    intro j u hj
    have hjn : j < n ∧ j < zs.length := by
      have := (List.getElem?_eq_some_iff.1 hj).1
      simp at this
      omega
    rw [Addr.add_lit]
    refine Lib.cell?_alloc_some _ ?_
    rw [A.out j hjn.2]
    have e : ((zs.take n).map (Value.int .u8))[j]? = some (Value.int .u8 (zs.getD j 0)) := by simp [List.getD, hjn.1, List.getElem?_eq_getElem hjn.2]
    rw [e] at hj
    exact hj
  case qc3 => intro u hu; obtain ⟨x, _, rfl⟩ := List.mem_map.1 hu; rfl
  case qc4 => unfold maxLen; omega
  case qc5 => omega
  case qc6 => simp
  intro v' w1 hown hgrow hnil
  go_wp2
  go_ret
  refine ⟨v', rfl, by simpa using hown, ?_, ?_⟩
  · exact hnil
  · exact ((Below.refl _ w).alloc (Nat.le_refl _) _).grown hgrow (by simp) (by intro k hk; simp [Value.ownBlock] at hk; omega)


theorem or_zero (q z : Int) (h0 : 0 ≤ q) (h1 : q ≤ 255) (h2 : 0 ≤ z) (h3 : z ≤ 255) : bits .or .u8 q z = 0 ↔ q = 0 ∧ z = 0 := by
  obtain ⟨a, rfl⟩ := Int.eq_ofNat_of_zero_le h0
  obtain ⟨b, rfl⟩ := Int.eq_ofNat_of_zero_le h2
  rw [(bits_nat .u8 8 (by decide) wraps_u8 a b (by omega) (by omega)).2]
  constructor
  · intro h
    have h4 : a ||| b = 0 := by omega
    have := Nat.or_eq_zero_iff.1 h4
    omega
  · rintro ⟨h4, h5⟩
    have h6 : a = 0 := by omega
    have h7 : b = 0 := by omega
    subst h6 h7; rfl

theorem ret_zero {q : Int} {zs : List Int} {n : Nat} (h : q = 0 ↔ ∀ j, j < n → zs.getD j 0 = 0) : Ending.returned (.bool (q == 0)) = .returned (.bool (allZero zs n)) := by
  unfold allZero
  by_cases h0 : q = 0
  · have := h.1 h0
    rw [decide_eq_true this]
    subst h0; rfl
  · rw [decide_eq_false (fun hp => h0 (h.2 hp))]
    simp [h0]

set_option maxHeartbeats 1000000 in
/-- isZero tells whether the first n bytes are all 0. -/
theorem isZero_any (b off n c : Nat) (zs : List Int) (w : World) (hz : n ≤ zs.length) (hbig : n ≤ 140737488355328) (hc : ∀ j, j < zs.length → w.cell? ⟨b, off + j, none⟩ = some (.int .u8 (zs.getD j 0)))
    (hr : ∀ j, 0 ≤ zs.getD j 0 ∧ zs.getD j 0 ≤ 255) :
    Calls Try.prog 7 #[.slice (some ⟨b, off, none⟩) n c] w fun e w' => e = .returned (.bool (allZero zs n)) ∧ w = w' := by
  have A : Hid (∀ j, j < zs.length → w.cell? ⟨b, off + j, none⟩ = some (.int .u8 (zs.getD j 0))) := hid hc
  have R : Hid (∀ j, 0 ≤ zs.getD j 0 ∧ zs.getD j 0 ≤ 255) := hid hr
  clear hc hr
  go_enter Try.func7, Try.ntmps7
  go_wp2
  go_loop [3, 8] (fun z i => ∃ (k : Nat) (q : Int), k ≤ n ∧ 0 ≤ q ∧ q ≤ 255 ∧ (q = 0 ↔ ∀ j, j < k → zs.getD j 0 = 0) ∧ z = .int .u8 q ∧ i = .int .i64 k) (fun _ i => n - (intOf i).toNat)
  case atStart => exact ⟨0, 0, by omega, by omega, by omega, by simp, rfl, rfl⟩
  case round =>
    obtain ⟨k, q, hk, hq0, hq1, hq, rfl, rfl⟩ := hrel
    have Q : Hid (q = 0 ↔ ∀ j, j < k → zs.getD j 0 = 0) := hid hq
    clear hq
    by_cases hlt : k < n
    · have hcell := A.out k (by omega)
      have hr := R.out k
      have e0 : zs.getD k 0 = zs[k]?.getD 0 := rfl
      have E : Hid (zs.getD k 0 = zs[k]?.getD 0) := hid e0
      clear e0
      go_wp2
      go_round
      case rel =>
        refine ⟨k + 1, bits .or .u8 q (zs[k]?.getD 0), by omega, bits_lo_u8 _ _ _, bits_hi_u8 _ _ _, ?_, rfl, by go_num⟩
        rw [← E.out, or_zero q _ hq0 hq1 hr.1 hr.2, Q.out]
        constructor
        · rintro ⟨h1, h2⟩ j hj
          by_cases hjk : j < k
          · exact h1 j hjk
          · obtain rfl : j = k := by omega
            exact h2
        · intro h
          exact ⟨fun j hj => h j (by omega), h k (by omega)⟩
      case measure => simp [intOf]; omega
    · go_wp2
      go_ret
      obtain rfl : k = n := by omega
      exact ⟨ret_zero Q.out, rfl⟩

set_option maxHeartbeats 1000000 in
theorem zzIsZero_any (b off n c : Nat) (zs : List Int) (w : World) (hz : n ≤ zs.length) (hbig : n ≤ 140737488355328) (hc : ∀ j, j < zs.length → w.cell? ⟨b, off + j, none⟩ = some (.int .u8 (zs.getD j 0)))
    (hr : ∀ j, 0 ≤ zs.getD j 0 ∧ zs.getD j 0 ≤ 255) :
    Calls Try.prog 5 #[.slice (some ⟨b, off, none⟩) n c] w fun e w' => e = .returned (.bool (allZero zs n)) ∧ w = w' := by
  have A : Hid (∀ j, j < zs.length → w.cell? ⟨b, off + j, none⟩ = some (.int .u8 (zs.getD j 0))) := hid hc
  have R : Hid (∀ j, 0 ≤ zs.getD j 0 ∧ zs.getD j 0 ≤ 255) := hid hr
  clear hc hr
  go_enter Try.func5, Try.ntmps5
  go_wp2_with (go_at_call 7; refine (isZero_any b off n c zs _ hz hbig A.out R.out).mono ?_; rintro e w' ⟨rfl, rfl⟩)
  go_ret
  exact ⟨rfl, rfl⟩

set_option maxHeartbeats 1000000 in
/-- What impl.IsZero answers of n bytes at the head of zs. -/
theorem implIsZero_any (b off n c : Nat) (zs : List Int) (w : World) (hz : n ≤ zs.length) (hbig : n ≤ 140737488355328) (hc : ∀ j, j < zs.length → w.cell? ⟨b, off + j, none⟩ = some (.int .u8 (zs.getD j 0)))
    (hr : ∀ j, 0 ≤ zs.getD j 0 ∧ zs.getD j 0 ≤ 255) :
    Calls Try.prog 4 #[.slice (some ⟨b, off, none⟩) n c] w fun e w' => e = .returned (.bool (allZero zs n)) ∧ Below w.heap.size w w' := by
  have A : Hid (∀ j, j < zs.length → w.cell? ⟨b, off + j, none⟩ = some (.int .u8 (zs.getD j 0))) := hid hc
  have R : Hid (∀ j, 0 ≤ zs.getD j 0 ∧ zs.getD j 0 ≤ 255) := hid hr
  clear hc hr
  go_enter Try.func4, Try.ntmps4
  go_wp2_with fail
  refine (clone_any b off n c zs w hz hbig A.out).mono ?_
  rintro e w1 ⟨v1, rfl, hown, hne, hb⟩
  rcases hown.2 with ⟨rfl, _⟩ | ⟨g, cap, cur, rfl, hge, hheap, hn, hm, hcs, htake⟩
  · exact absurd rfl hne
  have hcell : ∀ j, j < (zs.take n).length → w1.cell? ⟨g, 0 + j, none⟩ = some (.int .u8 ((zs.take n).getD j 0)) := by
    intro j hj
    have hj' : j < n ∧ j < zs.length := by simp at hj; omega
    rw [Nat.zero_add, hown.cellAt j (by omega)]
    simp [List.getD, hj'.1, List.getElem?_eq_getElem hj'.2]
  have hrr : ∀ j, 0 ≤ (zs.take n).getD j 0 ∧ (zs.take n).getD j 0 ≤ 255 := by
    intro j
    by_cases hj : j < n
    · have := R.out j; simpa [List.getD, hj] using this
    · simp [List.getD, List.getElem?_take, hj]
  have C : Hid (∀ j, j < (zs.take n).length → w1.cell? ⟨g, 0 + j, none⟩ = some (.int .u8 ((zs.take n).getD j 0))) := hid hcell
  have R2 : Hid (∀ j, 0 ≤ (zs.take n).getD j 0 ∧ (zs.take n).getD j 0 ≤ 255) := hid hrr
  have B : Hid (Below w.heap.size w w1) := hid hb
  clear hcell hrr hb hown hheap hcs htake hne
  go_wp2_with (go_at_call 5; refine (zzIsZero_any g 0 n cap (zs.take n) _ (by simp; omega) hbig C.out R2.out).mono ?_; rintro e w' ⟨rfl, rfl⟩)
  go_ret
  exact ⟨congrArg (fun x => Ending.returned (.bool x)) (allZero_take zs n), B.out⟩

set_option maxHeartbeats 2000000 in
theorem law_any (b off n c : Nat) (zs : List Int) (w : World) (hz : n ≤ zs.length) (hbig : n ≤ 9223372036854775807) (hc : ∀ j, j < zs.length → w.cell? ⟨b, off + j, none⟩ = some (.int .u8 (zs.getD j 0)))
    (hr : ∀ j, 0 ≤ zs.getD j 0 ∧ zs.getD j 0 ≤ 255) :
    Calls Try.prog 3 #[.slice (some ⟨b, off, none⟩) n c] w fun e w' => e = .returned (.bool true) ∧ Below w.heap.size w w' := by
  have A : Hid (∀ j, j < zs.length → w.cell? ⟨b, off + j, none⟩ = some (.int .u8 (zs.getD j 0))) := hid hc
  have R : Hid (∀ j, 0 ≤ zs.getD j 0 ∧ zs.getD j 0 ≤ 255) := hid hr
  clear hc hr
  by_cases hbg : 2147483647 < n
  · go_enter Try.func3, Try.ntmps3
    go_wp2
    go_ret
    exact ⟨rfl, Below.refl _ _⟩
  go_enter Try.func3, Try.ntmps3
  go_wp2_with fail
  go_loopw [3, 4] (fun z i wr => ∃ k : Nat, k ≤ n ∧ z = .bool (allZero zs k) ∧ i = .int .i64 k ∧ Below w.heap.size w wr) (fun _ i _ => n - (intOf i).toNat)
  case atStart => exact ⟨0, by omega, by simp [allZero], rfl, Below.refl _ _⟩
  case round =>
    obtain ⟨k, hk, rfl, rfl, hb⟩ := hrel
    have B : Hid (Below w.heap.size w wr) := hid hb
    have hstep := allZero_snoc zs k
    have hlt' := fun (h : k < zs.length) => A.out k h
    by_cases hlt : k < n
    · have hblk : b < w.heap.size := World.block_lt_of_cell? _ _ (hlt' (by omega))
      have hcell : wr.cell? ⟨b, off + k, none⟩ = some (.int .u8 (zs.getD k 0)) := by rw [hb.cell (p := ⟨b, off + k, none⟩) hblk]; exact hlt' (by omega)
      clear hlt'
      have S : Hid (allZero zs (k + 1) = (allZero zs k && (zs.getD k 0 == 0))) := hid hstep
      clear hb hstep
      cases hv : allZero zs k
      · have V : Hid (allZero zs k = false) := hid hv
        clear hv
        go_wp2
        go_roundw
        case rel => exact ⟨k + 1, by omega, by rw [S.out, V.out]; rfl, by go_num, B.out⟩
        case measure => simp [intOf]; omega
      · have V : Hid (allZero zs k = true) := hid hv
        clear hv
        go_wp2
        go_roundw
        case rel => exact ⟨k + 1, by omega, by rw [S.out, V.out]; rfl, by go_num, B.out⟩
        case measure => simp [intOf]; omega
    · obtain rfl : k = n := by omega
      have hcells : ∀ j, j < zs.length → wr.cell? ⟨b, off + j, none⟩ = some (.int .u8 (zs.getD j 0)) := by
        intro j hj
        rw [hb.cell (p := ⟨b, off + j, none⟩) (World.block_lt_of_cell? _ _ (A.out j hj))]; exact A.out j hj
      have C : Hid (∀ j, j < zs.length → wr.cell? ⟨b, off + j, none⟩ = some (.int .u8 (zs.getD j 0))) := hid hcells
      clear hcells hb hstep hlt'
      go_wp2_with (go_at_call 4; refine (implIsZero_any b off k c zs _ hz (by omega) C.out R.out).mono ?_; rintro e w' ⟨rfl, hb2⟩)
      go_ret
      exact ⟨by simp, B.out.trans (hb2.mono B.out.size)⟩

/-! A slice of no bytes, wherever it points, and the nil slice. -/
set_option maxHeartbeats 1000000 in
theorem clone_empty (a : Addr) (c : Nat) (w : World) :
    Calls Try.prog 6 #[.slice (some a) 0 c] w fun e w' => ∃ v', e = .returned v' ∧ w'.ownsRow w.heap.size 5 1 v' 0 [] ∧ v' ≠ .slice none 0 0 ∧ Below w.heap.size w w' := by
  obtain ⟨i0, hi, hz0, hz1, hz2⟩ := info_parts info5
  have q22 : ∀ (w : World) (a : Option Addr) (n c n' c' : Nat), (binOp .eql 22 (.slice a n c) (.slice none n' c')).run Try.prog w = .ok (.bool a.isNone) w := fun w a n c n' c' => Lib.run_eql_slice_nil w _ _ a n c n' c' Try.underlying22
  go_enter Try.func6, Try.ntmps6
  go_wp2_with (at_builtin; refine wpList_append_own _ rfl _ _ 22 rfl w.heap.size 5 i0 (.int .u8 0) 1 1 Try.underlying22 hi hz0 hz1 hz2 rfl (by decide) _ _ _ rfl (World.ownsRow_made w #[] 0 (Nat.le_refl _) (Nat.zero_le _) rfl) a 0 c [] rfl ?qc1 ?qc2 ?qc3 ?qc4 ?qc5 ?qc6 ?_)
  case qc1 => rfl
  case qc2 => intro j u hj; simp at hj
  case qc3 => intro u hu; simp at hu
  case qc4 => unfold maxLen; omega
  case qc5 => omega
  case qc6 => simp
  intro v' w1 hown hgrow hnil
  go_wp2
  go_ret
  refine ⟨v', rfl, by simpa using hown, ?_, ?_⟩
  · exact hnil
  · exact ((Below.refl _ w).alloc (Nat.le_refl _) _).grown hgrow (by simp) (by intro k hk; simp [Value.ownBlock] at hk; omega)

set_option maxHeartbeats 1000000 in
theorem implIsZero_empty (a : Addr) (c : Nat) (w : World) :
    Calls Try.prog 4 #[.slice (some a) 0 c] w fun e w' => e = .returned (.bool true) ∧ Below w.heap.size w w' := by
  go_enter Try.func4, Try.ntmps4
  go_wp2_with fail
  refine (clone_empty a c w).mono ?_
  rintro e w1 ⟨v1, rfl, hown, hne, hb⟩
  rcases hown.2 with ⟨rfl, _⟩ | ⟨g, cap, cur, rfl, hge, hheap, hn, hm, hcs, htake⟩
  · exact absurd rfl hne
  have B : Hid (Below w.heap.size w w1) := hid hb
  clear hb hown hheap hcs htake hne
  go_wp2_with (go_at_call 5; refine (zzIsZero_any g 0 0 cap [] _ (by simp) (by omega) (fun j hj => by simp at hj) (fun j => by simp)).mono ?_; rintro e w' ⟨rfl, rfl⟩)
  go_ret
  exact ⟨congrArg (fun x => Ending.returned (.bool x)) (by simp [allZero]), B.out⟩

set_option maxHeartbeats 1000000 in
theorem law_empty (a : Addr) (c : Nat) (w : World) : Calls Try.prog 3 #[.slice (some a) 0 c] w fun e w' => e = .returned (.bool true) ∧ Below w.heap.size w w' := by
  go_enter Try.func3, Try.ntmps3
  go_wp2_with fail
  go_loopw [3, 4] (fun z i wr => z = .bool true ∧ i = .int .i64 0 ∧ wr = w) (fun _ _ _ => 0)
  case atStart => exact ⟨rfl, rfl, rfl⟩
  case round =>
    obtain ⟨rfl, rfl, rfl⟩ := hrel
    go_wp2_with (go_at_call 4; refine (implIsZero_empty a c _).mono ?_; rintro e w' ⟨rfl, hb2⟩)
    go_ret
    exact ⟨by simp, hb2⟩

set_option maxHeartbeats 1000000 in
theorem implIsZero_nil (w : World) :
    Calls Try.prog 4 #[.slice none 0 0] w fun e w' => e = .returned (.bool true) ∧ w = w' := by
  have q22 : ∀ (w : World) (a : Option Addr) (n c n' c' : Nat), (binOp .eql 22 (.slice a n c) (.slice none n' c')).run Try.prog w = .ok (.bool a.isNone) w := fun w a n c n' c' => Lib.run_eql_slice_nil w _ _ a n c n' c' Try.underlying22
  go_enter Try.func4, Try.ntmps4
  go_wp2
  go_loop [3, 8] (fun z i => z = .int .u8 0 ∧ i = .int .i64 0) (fun _ _ => 0)
  case atStart => exact ⟨rfl, rfl⟩
  case round =>
    obtain ⟨rfl, rfl⟩ := hrel
    go_wp2
    go_ret
    exact ⟨rfl, rfl⟩

set_option maxHeartbeats 1000000 in
theorem law_nil (w : World) : Calls Try.prog 3 #[.slice none 0 0] w fun e w' => e = .returned (.bool true) ∧ Below w.heap.size w w' := by
  go_enter Try.func3, Try.ntmps3
  go_wp2_with fail
  go_loopw [3, 4] (fun z i wr => z = .bool true ∧ i = .int .i64 0 ∧ wr = w) (fun _ _ _ => 0)
  case atStart => exact ⟨rfl, rfl, rfl⟩
  case round =>
    obtain ⟨rfl, rfl, rfl⟩ := hrel
    go_wp2_with (go_at_call 4; refine (implIsZero_nil _).mono ?_; rintro e w' ⟨rfl, rfl⟩)
    go_ret
    exact ⟨by simp, Below.refl _ _⟩

end Go.Proofs.Ytflmkgecgijncaa
