/-
  leUint64 and SetBytes: 32 bytes, the lowest first, become an element.
-/
import Derived.Test.YtflmkgecgijncaaDoorF11
namespace Go.Proofs.YtflmkgecgijncaaDoor
open Go.RowKit Go.Shelf

/-- The number of the n bytes from place k on, the lowest first. -/
def leN (f : Nat → Int) : Nat → Nat → Int
  | 0, _ => 0
  | n + 1, k => f k + 256 * leN f n (k + 1)

/-- All are bytes. -/
def Byt (f : Nat → Int) : Prop := ∀ j, 0 ≤ f j ∧ f j ≤ 255

theorem leN_lo {f : Nat → Int} (hf : Byt f) : ∀ n k, 0 ≤ leN f n k
  | 0, _ => Int.le_refl _
  | n + 1, k => by have := leN_lo hf n (k + 1); have := (hf k).1; unfold leN; omega

theorem leN_hi {f : Nat → Int} (hf : Byt f) : ∀ n k, leN f n k < 256 ^ n
  | 0, _ => by simp [leN]
  | n + 1, k => by have := leN_hi hf n (k + 1); have := (hf k).2; unfold leN; rw [Int.pow_succ]; omega

theorem leN_split (f : Nat → Int) : ∀ n m k, leN f (n + m) k = leN f n k + 256 ^ n * leN f m (k + n)
  | 0, m, k => by simp [leN]
  | n + 1, m, k => by
    have e : n + 1 + m = (n + m) + 1 := by omega
    rw [e]
    show f k + 256 * leN f (n + m) (k + 1) = f k + 256 * leN f n (k + 1) + _
    rw [leN_split f n m (k + 1), show k + 1 + n = k + (n + 1) from by omega, Int.pow_succ]
    generalize leN f n (k + 1) = a
    generalize leN f m (k + (n + 1)) = b
    generalize (256 : Int) ^ n = c
    grind

theorem leN_snoc (f : Nat → Int) (n k : Nat) (hk : 0 < k) : leN f n k * 256 + f (k - 1) = leN f (n + 1) (k - 1) := by
  obtain ⟨j, rfl⟩ : ∃ j, k = j + 1 := ⟨k - 1, by omega⟩
  show _ = f (j + 1 - 1) + 256 * leN f n (j + 1 - 1 + 1)
  simp only [Nat.add_sub_cancel]
  omega

/-- The n cells from o on in block b are the bytes f. -/
def Bytes (w : World) (b o n : Nat) (f : Nat → Int) : Prop := ∀ j, j < n → w.cell? ⟨b, o + j, none⟩ = some (.int .u8 (f j))

set_option maxHeartbeats 1000000 in
theorem leUint64_any (b o c : Nat) (f : Nat → Int) (w : World) (hb : Bytes w b o 8 f) (hf : Byt f) :
    Calls Tryd.prog 75 #[.slice (some ⟨b, o, none⟩) 8 c] w fun e w' => e = .returned (.int .u64 (leN f 8 0)) ∧ w = w' := by
  have HB : Hid (Bytes w b o 8 f) := hid hb
  have HF : Hid (Byt f) := hid hf
  clear hb hf
  go_enter Tryd.func75, Tryd.ntmps75
  go_wp2
  go_loop [3, 4] (fun x i => ∃ (k : Nat) (z : Int), k ≤ 8 ∧ i = .int .i64 ((k : Int) - 1) ∧ x = .int .u64 z ∧ Hid (z = leN f (8 - k) k)) (fun _ i => (intOf i + 1).toNat)
  case atStart => exact ⟨8, 0, by omega, rfl, rfl, hid rfl⟩
  case round =>
    obtain ⟨k, z, hk, rfl, rfl, hz⟩ := hrel
    have z0 : 0 ≤ z := by rw [hz.out]; exact leN_lo HF.out _ _
    by_cases h0 : k = 0
    · have hneg : (k : Int) - 1 < 0 := by omega
      have hk0 : Hid (k = 0) := hid h0
      clear h0
      go_wp2
      go_ret
      exact ⟨congrArg (fun z => Ending.returned (.int .u64 z)) (by rw [hz.out, hk0.out]), rfl⟩
    · have z1 : z < 72057594037927936 := by
        have h := leN_hi HF.out (8 - k) k
        rw [← hz.out] at h
        have h2 : (256 : Nat) ^ (8 - k) ≤ 256 ^ 7 := Nat.pow_le_pow_right (by decide) (by omega)
        have h3 : (((256 : Nat) ^ (8 - k) : Nat) : Int) = (256 : Int) ^ (8 - k) := Int.natCast_pow _ _
        omega
      have hc := HB.out (k - 1) (by omega)
      have hcb := HF.out (k - 1)
      obtain ⟨y, hy⟩ : ∃ y, f (k - 1) = y := ⟨_, rfl⟩
      rw [hy] at hc hcb
      have HY : Hid (f (k - 1) = y) := hid hy
      obtain ⟨hc0, hc1⟩ := hcb
      have hor := or_u64 8 (by decide) (z * 256) y (by omega) (by omega) (by omega) hc0 (by omega)
      have e1 : ((k : Int) - 1).toNat = k - 1 := by omega
      have hpos : 1 ≤ k := by omega
      clear hy h0
      go_wp2
      go_round
      case rel => exact ⟨k - 1, z * 256 + y, by omega, by rw [show ((k - 1 : Nat) : Int) = (k : Int) - 1 from by omega], rfl, hid (by rw [← HY.out, hz.out, leN_snoc f _ _ hpos, show 8 - k + 1 = 8 - (k - 1) from by omega])⟩
      case measure => simp [intOf]; omega

theorem leN_shift (f : Nat → Int) (m : Nat) : ∀ n k, leN (fun j => f (m + j)) n k = leN f n (m + k)
  | 0, _ => rfl
  | n + 1, k => by show f (m + k) + 256 * _ = f (m + k) + 256 * _; rw [leN_shift f m n (k + 1)]; rfl

theorem leUint64_at (b o c m : Nat) (f : Nat → Int) (w : World) (hb : Bytes w b o 32 f) (hf : Byt f) (hm : m + 8 ≤ 32) :
    Calls Tryd.prog 75 #[.slice (some ⟨b, o + m, none⟩) 8 c] w fun e w' => e = .returned (.int .u64 (leN f 8 m)) ∧ w = w' := by
  have h := leUint64_any b (o + m) c (fun j => f (m + j)) w (fun j hj => by rw [Nat.add_assoc]; exact hb (m + j) (by omega)) (fun j => hf _)
  rw [leN_shift] at h
  exact h

theorem limb_bytes {f : Nat → Int} (hf : Byt f) (i n : Nat) (hi : i + 8 + n = 32) : ∃ lo hi : Int, 0 ≤ lo ∧ lo < 256 ^ i ∧ leN f 32 0 = lo + 256 ^ i * (leN f 8 i + 18446744073709551616 * hi) ∧ 0 ≤ hi := by
  have e1 := leN_split f i (8 + n) 0
  have e2 := leN_split f 8 n (0 + i)
  rw [show i + (8 + n) = 32 from by omega, e2, Nat.zero_add] at e1
  exact ⟨_, _, leN_lo hf _ _, leN_hi hf _ _, e1, leN_lo hf _ _⟩

/-- The five limbs that SetBytes cuts out of 32 bytes. -/
theorem set_limbs {f : Nat → Int} (hf : Byt f) :
    val (leN f 8 0 % 2251799813685248) (leN f 8 6 / 8 % 2251799813685248) (leN f 8 12 / 64 % 2251799813685248) (leN f 8 19 / 2 % 2251799813685248) (leN f 8 24 / 4096 % 2251799813685248)
      = leN f 32 0 % 57896044618658097711785492504343953926634992332820282019728792003956564819968 := by
  obtain ⟨l0, h0, a1, a2, a3, a4⟩ := limb_bytes hf 0 24 rfl
  obtain ⟨l1, h1, b1, b2, b3, b4⟩ := limb_bytes hf 6 18 rfl
  obtain ⟨l2, h2, c1, c2, c3, c4⟩ := limb_bytes hf 12 12 rfl
  obtain ⟨l3, h3, d1, d2, d3, d4⟩ := limb_bytes hf 19 5 rfl
  obtain ⟨l4, h4, e1, e2, e3, e4⟩ := limb_bytes hf 24 0 rfl
  have p0 := leN_hi hf 8 0
  have p1 := leN_hi hf 8 6
  have p2 := leN_hi hf 8 12
  have p3 := leN_hi hf 8 19
  have p4 := leN_hi hf 8 24
  have q0 := leN_lo hf 8 0
  have q1 := leN_lo hf 8 6
  have q2 := leN_lo hf 8 12
  have q3 := leN_lo hf 8 19
  have q4 := leN_lo hf 8 24
  have hN := leN_hi hf 32 0
  have hN0 := leN_lo hf 32 0
  generalize leN f 32 0 = N at *
  generalize leN f 8 0 = m0 at *
  generalize leN f 8 6 = m1 at *
  generalize leN f 8 12 = m2 at *
  generalize leN f 8 19 = m3 at *
  generalize leN f 8 24 = m4 at *
  have r0 : m0 % 2251799813685248 = N % 2251799813685248 := by omega
  have r1 : m1 / 8 % 2251799813685248 = N / 2251799813685248 % 2251799813685248 := by omega
  have r2 : m2 / 64 % 2251799813685248 = N / 5070602400912917605986812821504 % 2251799813685248 := by omega
  have r3 : m3 / 2 % 2251799813685248 = N / 11417981541647679048466287755595961091061972992 % 2251799813685248 := by omega
  have r4 : m4 / 4096 % 2251799813685248 = N / 25711008708143844408671393477458601640355247900524685364822016 % 2251799813685248 := by omega
  rw [r0, r1, r2, r3, r4]
  unfold val
  omega

theorem Acc.next {w W W' : World} {b o i : Nat} {c : Nat → Int} (h : Acc w W b o i c) (hu : Upd W W' b (o + i) 1) (hv : W'.cell? ⟨b, o + i, none⟩ = some (.int .u64 (c i))) : Acc w W' b o (i + 1) c := by
  have u1 : Upd w W b o (i + 1) := h.upd.more
  refine ⟨⟨hu.os.trans u1.os, hu.tape.trans u1.tape, hu.output.trans u1.output, Nat.le_trans u1.size hu.size, fun k hk hb => (hu.block k (Nat.lt_of_lt_of_le hk u1.size) hb).trans (u1.block k hk hb),
    fun j hj => (hu.cell j (by omega)).trans (u1.cell j hj), fun j => (hu.froz j).trans (u1.froz j)⟩, fun j hj => ?_⟩
  by_cases e : j = i
  · subst e; exact hv
  · rw [hu.cell _ (by omega)]; exact h.got j (by omega)

theorem Bytes.keep {w W : World} {b o n bv ov m : Nat} {f : Nat → Int} (h : Bytes w b o n f) (hu : Upd w W bv ov m) (hne : b ≠ bv) : Bytes W b o n f := by
  intro j hj
  have := h j hj
  rw [(hu.other (World.block_lt_of_cell? _ _ this) hne _).1]; exact this

theorem Bytes.below {w W : World} {B b o n : Nat} {f : Nat → Int} (h : Bytes w b o n f) (hb : Below B w W) (hB : b < B) : Bytes W b o n f := by
  intro j hj
  rw [hb.cell (p := ⟨b, o + j, none⟩) hB]; exact h j hj

set_option maxRecDepth 100000 in
set_option maxHeartbeats 4000000 in
theorem SetBytes_any (bv ov b o c : Nat) (f : Nat → Int) (w : World) (hv : Room w bv ov) (hb : Bytes w b o 32 f) (hf : Byt f) (hc : 32 ≤ c) (hne : b ≠ bv) :
    Calls Tryd.prog 62 #[.pointer (some ⟨bv, ov, none⟩), .slice (some ⟨b, o, none⟩) 32 c] w (Did w bv ov (leN f 32 0 % 57896044618658097711785492504343953926634992332820282019728792003956564819968) (.tuple #[.pointer (some ⟨bv, ov, none⟩), .nilIface])) := by
  have HV : Hid (Room w bv ov) := hid hv
  have HB : Hid (Bytes w b o 32 f) := hid hb
  have HF : Hid (Byt f) := hid hf
  have NE : Hid (b ≠ bv) := hid hne
  clear hb hf hv hne
  obtain ⟨m0, hm0⟩ : ∃ z, leN f 8 0 = z := ⟨_, rfl⟩
  have lo0 : 0 ≤ m0 := by rw [← hm0]; exact leN_lo HF.out _ _
  have hi0 : m0 < 18446744073709551616 := by rw [← hm0]; exact leN_hi HF.out _ _
  have M0 : Hid (leN f 8 0 = m0) := hid hm0
  clear hm0
  obtain ⟨m1, hm1⟩ : ∃ z, leN f 8 6 = z := ⟨_, rfl⟩
  have lo1 : 0 ≤ m1 := by rw [← hm1]; exact leN_lo HF.out _ _
  have hi1 : m1 < 18446744073709551616 := by rw [← hm1]; exact leN_hi HF.out _ _
  have M1 : Hid (leN f 8 6 = m1) := hid hm1
  clear hm1
  obtain ⟨m2, hm2⟩ : ∃ z, leN f 8 12 = z := ⟨_, rfl⟩
  have lo2 : 0 ≤ m2 := by rw [← hm2]; exact leN_lo HF.out _ _
  have hi2 : m2 < 18446744073709551616 := by rw [← hm2]; exact leN_hi HF.out _ _
  have M2 : Hid (leN f 8 12 = m2) := hid hm2
  clear hm2
  obtain ⟨m3, hm3⟩ : ∃ z, leN f 8 19 = z := ⟨_, rfl⟩
  have lo3 : 0 ≤ m3 := by rw [← hm3]; exact leN_lo HF.out _ _
  have hi3 : m3 < 18446744073709551616 := by rw [← hm3]; exact leN_hi HF.out _ _
  have M3 : Hid (leN f 8 19 = m3) := hid hm3
  clear hm3
  obtain ⟨m4, hm4⟩ : ∃ z, leN f 8 24 = z := ⟨_, rfl⟩
  have lo4 : 0 ≤ m4 := by rw [← hm4]; exact leN_lo HF.out _ _
  have hi4 : m4 < 18446744073709551616 := by rw [← hm4]; exact leN_hi HF.out _ _
  have M4 : Hid (leN f 8 24 = m4) := hid hm4
  clear hm4
  have S0 := Acc.start w bv ov (fun j => match j with | 0 => m0 % 2251799813685248 | 1 => m1 / 8 % 2251799813685248 | 2 => m2 / 64 % 2251799813685248 | 3 => m3 / 2 % 2251799813685248 | _ => m4 / 4096 % 2251799813685248)
  generalize hc' : ((fun j => match j with | 0 => m0 % 2251799813685248 | 1 => m1 / 8 % 2251799813685248 | 2 => m2 / 64 % 2251799813685248 | 3 => m3 / 2 % 2251799813685248 | _ => m4 / 4096 % 2251799813685248) : Nat → Int) = cc at S0
  have K0 : Hid (m0 % 2251799813685248 = cc 0) := hid (congrFun hc' 0)
  have K1 : Hid (m1 / 8 % 2251799813685248 = cc 1) := hid (congrFun hc' 1)
  have K2 : Hid (m2 / 64 % 2251799813685248 = cc 2) := hid (congrFun hc' 2)
  have K3 : Hid (m3 / 2 % 2251799813685248 = cc 3) := hid (congrFun hc' 3)
  have K4 : Hid (m4 / 4096 % 2251799813685248 = cc 4) := hid (congrFun hc' 4)
  clear hc'
  have A0 := and51 (m0) (by omega) (by omega)
  have A1 := and51 (m1 / 8) (by omega) (by omega)
  have A2 := and51 (m2 / 64) (by omega) (by omega)
  have A3 := and51 (m3 / 2) (by omega) (by omega)
  have A4 := and51 (m4 / 4096) (by omega) (by omega)
  go_enter Tryd.func62, Tryd.ntmps62
  go_wp2_with fail
  refine (leUint64_at b o _ 0 f _ (HB.out.keep S0.upd NE.out) HF.out (by decide)).mono ?_
  rw [M0.out]
  rintro e w' ⟨rfl, rfl⟩
  obtain ⟨⟨z0, z1, z2, z3, z4, hg⟩, hf⟩ := HV.out
  have rv : w.cell? ⟨bv, ov, none⟩ = some (.int .u64 z0) := S0.cell (Or.inl ⟨rfl, rfl⟩) HV.out.lt 0 (by decide) (by decide) hg.1
  have rf : w.frozen? ⟨bv, ov, none⟩ = false := S0.frozen _ hf.1
  clear hg hf
  go_wp2_with fail
  have S1 : Acc w ((w.setCell ⟨bv, ov, none⟩ (.int .u64 (m0))).setCell ⟨bv, ov, none⟩ (.int .u64 (m0 % 2251799813685248))) bv ov 1 cc := S0.next (((Upd.refl w bv (ov + 0) 1).setCell (Nat.le_refl _) (by omega) _).setCell (Nat.le_refl _) (by omega) _) (by rw [← K0.out]; exact limbs_put (isSome_set (by rw [show ov + 0 = ov from rfl, rv]; rfl)) rfl)
  generalize (w.setCell ⟨bv, ov, none⟩ (.int .u64 (m0))).setCell ⟨bv, ov, none⟩ (.int .u64 (m0 % 2251799813685248)) = W0 at S1 ⊢
  clear rv rf S0
  refine (leUint64_at b o _ 6 f _ (HB.out.keep S1.upd NE.out) HF.out (by decide)).mono ?_
  rw [M1.out]
  rintro e w' ⟨rfl, rfl⟩
  obtain ⟨⟨z0, z1, z2, z3, z4, hg⟩, hf⟩ := HV.out
  have rv : W0.cell? ⟨bv, ov + 1, none⟩ = some (.int .u64 z1) := S1.cell (Or.inl ⟨rfl, rfl⟩) HV.out.lt 1 (by decide) (by decide) hg.2.1
  have rf : W0.frozen? ⟨bv, ov + 1, none⟩ = false := S1.frozen _ hf.2.1
  clear hg hf
  go_wp2_with fail
  have S2 : Acc w ((W0.setCell ⟨bv, ov + 1, none⟩ (.int .u64 (m1 / 8))).setCell ⟨bv, ov + 1, none⟩ (.int .u64 (m1 / 8 % 2251799813685248))) bv ov 2 cc := S1.next (((Upd.refl W0 bv (ov + 1) 1).setCell (Nat.le_refl _) (by omega) _).setCell (Nat.le_refl _) (by omega) _) (by rw [← K1.out]; exact limbs_put (isSome_set (by rw [show ov + 1 = ov + 1 from rfl, rv]; rfl)) rfl)
  generalize (W0.setCell ⟨bv, ov + 1, none⟩ (.int .u64 (m1 / 8))).setCell ⟨bv, ov + 1, none⟩ (.int .u64 (m1 / 8 % 2251799813685248)) = W1 at S2 ⊢
  clear rv rf S1
  refine (leUint64_at b o _ 12 f _ (HB.out.keep S2.upd NE.out) HF.out (by decide)).mono ?_
  rw [M2.out]
  rintro e w' ⟨rfl, rfl⟩
  obtain ⟨⟨z0, z1, z2, z3, z4, hg⟩, hf⟩ := HV.out
  have rv : W1.cell? ⟨bv, ov + 2, none⟩ = some (.int .u64 z2) := S2.cell (Or.inl ⟨rfl, rfl⟩) HV.out.lt 2 (by decide) (by decide) hg.2.2.1
  have rf : W1.frozen? ⟨bv, ov + 2, none⟩ = false := S2.frozen _ hf.2.2.1
  clear hg hf
  go_wp2_with fail
  have S3 : Acc w ((W1.setCell ⟨bv, ov + 2, none⟩ (.int .u64 (m2 / 64))).setCell ⟨bv, ov + 2, none⟩ (.int .u64 (m2 / 64 % 2251799813685248))) bv ov 3 cc := S2.next (((Upd.refl W1 bv (ov + 2) 1).setCell (Nat.le_refl _) (by omega) _).setCell (Nat.le_refl _) (by omega) _) (by rw [← K2.out]; exact limbs_put (isSome_set (by rw [show ov + 2 = ov + 2 from rfl, rv]; rfl)) rfl)
  generalize (W1.setCell ⟨bv, ov + 2, none⟩ (.int .u64 (m2 / 64))).setCell ⟨bv, ov + 2, none⟩ (.int .u64 (m2 / 64 % 2251799813685248)) = W2 at S3 ⊢
  clear rv rf S2
  refine (leUint64_at b o _ 19 f _ (HB.out.keep S3.upd NE.out) HF.out (by decide)).mono ?_
  rw [M3.out]
  rintro e w' ⟨rfl, rfl⟩
  obtain ⟨⟨z0, z1, z2, z3, z4, hg⟩, hf⟩ := HV.out
  have rv : W2.cell? ⟨bv, ov + 3, none⟩ = some (.int .u64 z3) := S3.cell (Or.inl ⟨rfl, rfl⟩) HV.out.lt 3 (by decide) (by decide) hg.2.2.2.1
  have rf : W2.frozen? ⟨bv, ov + 3, none⟩ = false := S3.frozen _ hf.2.2.2.1
  clear hg hf
  go_wp2_with fail
  have S4 : Acc w ((W2.setCell ⟨bv, ov + 3, none⟩ (.int .u64 (m3 / 2))).setCell ⟨bv, ov + 3, none⟩ (.int .u64 (m3 / 2 % 2251799813685248))) bv ov 4 cc := S3.next (((Upd.refl W2 bv (ov + 3) 1).setCell (Nat.le_refl _) (by omega) _).setCell (Nat.le_refl _) (by omega) _) (by rw [← K3.out]; exact limbs_put (isSome_set (by rw [show ov + 3 = ov + 3 from rfl, rv]; rfl)) rfl)
  generalize (W2.setCell ⟨bv, ov + 3, none⟩ (.int .u64 (m3 / 2))).setCell ⟨bv, ov + 3, none⟩ (.int .u64 (m3 / 2 % 2251799813685248)) = W3 at S4 ⊢
  clear rv rf S3
  refine (leUint64_at b o _ 24 f _ (HB.out.keep S4.upd NE.out) HF.out (by decide)).mono ?_
  rw [M4.out]
  rintro e w' ⟨rfl, rfl⟩
  obtain ⟨⟨z0, z1, z2, z3, z4, hg⟩, hf⟩ := HV.out
  have rv : W3.cell? ⟨bv, ov + 4, none⟩ = some (.int .u64 z4) := S4.cell (Or.inl ⟨rfl, rfl⟩) HV.out.lt 4 (by decide) (by decide) hg.2.2.2.2
  have rf : W3.frozen? ⟨bv, ov + 4, none⟩ = false := S4.frozen _ hf.2.2.2.2
  clear hg hf
  go_wp2_with fail
  have S5 : Acc w ((W3.setCell ⟨bv, ov + 4, none⟩ (.int .u64 (m4 / 4096))).setCell ⟨bv, ov + 4, none⟩ (.int .u64 (m4 / 4096 % 2251799813685248))) bv ov 5 cc := S4.next (((Upd.refl W3 bv (ov + 4) 1).setCell (Nat.le_refl _) (by omega) _).setCell (Nat.le_refl _) (by omega) _) (by rw [← K4.out]; exact limbs_put (isSome_set (by rw [show ov + 4 = ov + 4 from rfl, rv]; rfl)) rfl)
  generalize (W3.setCell ⟨bv, ov + 4, none⟩ (.int .u64 (m4 / 4096))).setCell ⟨bv, ov + 4, none⟩ (.int .u64 (m4 / 4096 % 2251799813685248)) = W4 at S5 ⊢
  clear rv rf S4
  go_ret2
  have hl := S5.limbs
  rw [← K0.out, ← K1.out, ← K2.out, ← K3.out, ← K4.out] at hl
  refine ⟨rfl, ⟨⟨_, _, _, _, _, hl, ⟨⟨by omega, by omega⟩, ⟨by omega, by omega⟩, ⟨by omega, by omega⟩, ⟨by omega, by omega⟩, ⟨by omega, by omega⟩⟩, 0, ?_⟩, S5.upd.free HV.out.lt HV.out.2⟩, S5.upd⟩
  rw [← set_limbs HF.out, M0.out, M1.out, M2.out, M3.out, M4.out]
  simp

end Go.Proofs.YtflmkgecgijncaaDoor
