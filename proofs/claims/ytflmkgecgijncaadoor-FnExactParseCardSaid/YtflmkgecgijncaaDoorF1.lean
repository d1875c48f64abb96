import Derived.Test.YtflmkgecgijncaaDoorRows
import Derived.WalkKit
import Derived.WalkSpells
import Derived.WalkLawsBesides
import Derived.ProofKit
import Derived.Below
import Derived.OwnWalk
import Derived.Outline
import Derived.LoopTactic
import Derived.Deep.QuietTactic
import Derived.BigQuiet
import Derived.StillTailTactics
import Derived.Shelf.Bits.Mul64
namespace Go.Proofs.YtflmkgecgijncaaDoor
open Go.RowKit Go.Shelf

theorem hid {p : Prop} (h : p) : Hid p := h

def lays264_ren : Go.Shelf.Ren := ⟨fun | 264 => 96 | n => n, fun | 53 => 41 | 46 => 93 | n => n, fun | n => n⟩
theorem lays264 : Go.Proofs.Lays.n264 Tryd.prog lays264_ren := {
  mixed := by kernel_rfl
  f264 := Tryd.func96.trans (congrArg some (by kernel_rfl))
  t46 := Tryd.underlying93
  a46 := Tryd.isAgg93
  z46 := Tryd.sizeOf93
  v46 := Tryd.zeroValue93
  t53 := Tryd.underlying41
  a53 := Tryd.isAgg41
  z53 := Tryd.sizeOf41
  v53 := Tryd.zeroValue41 }

theorem mul64 (x y : Int) (w : World) (hx : 0 ≤ x) (hx' : x < 18446744073709551616) (hy : 0 ≤ y) (hy' : y < 18446744073709551616) :
    Calls Tryd.prog 96 #[.int .u64 x, .int .u64 y] w fun e w' => ∃ hi lo : Int, e = .returned (.tuple #[.int .u64 hi, .int .u64 lo]) ∧ (0 ≤ hi ∧ hi < 18446744073709551616) ∧ (0 ≤ lo ∧ lo < 18446744073709551616) ∧
      Hid (lo + 18446744073709551616 * hi = x * y) ∧ w = w' := by
  obtain ⟨x, rfl⟩ := Int.eq_ofNat_of_zero_le hx
  obtain ⟨y, rfl⟩ := Int.eq_ofNat_of_zero_le hy
  refine (Any.bits_Mul64 lays264 x y (by omega) (by omega) w).mono ?_
  rintro e w' ⟨rfl, rfl⟩
  have hlt : x * y < 18446744073709551616 * 18446744073709551616 := Nat.mul_lt_mul'' (by omega) (by omega)
  have h1 : x * y / 18446744073709551616 < 18446744073709551616 := Nat.div_lt_of_lt_mul hlt
  refine ⟨_, _, rfl, ⟨by omega, by omega⟩, ⟨by omega, by omega⟩, ?_, rfl⟩
  show _ = _
  rw [← Int.natCast_mul]
  generalize x * y = z
  omega

theorem add64 (x y c : Int) (hx : 0 ≤ x) (hy : 0 ≤ y) (hc0 : 0 ≤ c) (hc : c ≤ 1) (w : World) : (callFunc 104 #[.int .u64 x, .int .u64 y, .int .u64 c]).run Tryd.prog w =
    .ok (.value (.tuple #[.int .u64 ((x + y + c) % 18446744073709551616), .int .u64 ((x + y + c) / 18446744073709551616)])) w := by
  obtain ⟨x, rfl⟩ := Int.eq_ofNat_of_zero_le hx
  obtain ⟨y, rfl⟩ := Int.eq_ofNat_of_zero_le hy
  obtain ⟨c, rfl⟩ := Int.eq_ofNat_of_zero_le hc0
  rw [run_callFunc_extern Tryd.func104 (by kernel_rfl) (by kernel_rfl) (by kernel_rfl) (e := add64Entry) (by kernel_rfl), run_add64 x y c (by omega) (by omega) (by omega) (by omega)]
  simp only [Result.andThen]
theorem add64_0 (x y : Int) (hx : 0 ≤ x) (hy : 0 ≤ y) (w : World) : (callFunc 104 #[.int .u64 x, .int .u64 y, .int .u64 0]).run Tryd.prog w =
    .ok (.value (.tuple #[.int .u64 ((x + y) % 18446744073709551616), .int .u64 ((x + y) / 18446744073709551616)])) w := by
  simpa using add64 x y 0 hx hy (Int.le_refl 0) (by decide) w

/-- The call returned a number of two words that is v; what was there is as it was. -/
def Res128 (w : World) (v : Int) (e : Ending) (w' : World) : Prop :=
  ∃ hi lo : Int, e = .returned (.agg #[.int .u64 lo, .int .u64 hi]) ∧ (0 ≤ hi ∧ hi < 18446744073709551616) ∧ (0 ≤ lo ∧ lo < 18446744073709551616) ∧ Hid (lo + 18446744073709551616 * hi = v) ∧ Below w.heap.size w w'

set_option maxHeartbeats 400000 in
theorem mul_any (x y : Int) (w : World) (hx : 0 ≤ x) (hx' : x < 18446744073709551616) (hy : 0 ≤ y) (hy' : y < 18446744073709551616) :
    Calls Tryd.prog 91 #[.int .u64 x, .int .u64 y] w (Res128 w (x * y)) := by
  go_enter Tryd.func91, Tryd.ntmps91
  go_wp2_with fail
  refine (mul64 x y _ hx hx' hy hy').mono ?_
  rintro e w1 ⟨hi, lo, rfl, ⟨h1, h2⟩, ⟨h3, h4⟩, H, rfl⟩
  go_wp2_with fail
  exact bodyPost_ret (v := .agg #[.int .u64 lo, .int .u64 hi]) (by simp [results, Tryd.results91, go_sem]) rfl ⟨hi, lo, rfl, ⟨h1, h2⟩, ⟨h3, h4⟩, H, (Below.refl _ _).alloc (Nat.le_refl _) _⟩

set_option maxHeartbeats 400000 in
theorem mul19_any (x : Int) (w : World) (hx : 0 ≤ x) (hx' : x < 576460752303423488) :
    Calls Tryd.prog 89 #[.int .u64 x] w fun e w' => e = .returned (.int .u64 (19 * x)) ∧ w = w' := by
  go_enter Tryd.func89, Tryd.ntmps89
  go_wp2_with fail
  go_ret
  exact ⟨by show Ending.returned (.int .u64 (x + (x + x * 8) * 2)) = _; rw [show x + (x + x * 8) * 2 = 19 * x from by omega], rfl⟩

theorem res128_mk {w w' : World} {lo hi vl vh V v z z' : Int} (h1 : 0 ≤ hi) (h2 : hi < 18446744073709551616) (h3 : 0 ≤ lo) (h4 : lo < 18446744073709551616)
    (hl : 0 ≤ vl) (hl' : vl < 18446744073709551616) (hh : 0 ≤ vh) (hh' : vh < 18446744073709551616)
    (H : Hid (lo + 18446744073709551616 * hi = z')) (hz : z' = z) (hV : Hid (vl + 18446744073709551616 * vh = V)) (hs : Hid (V + z < 340282366920938463463374607431768211456)) (hv : v = V + z) (hb : Below w.heap.size w w') :
    Res128 w v (.returned (.agg #[.int .u64 ((lo + vl) % 18446744073709551616), .int .u64 ((hi + vh + (lo + vl) / 18446744073709551616) % 18446744073709551616)])) w' := by
  have H := H.out; have hs := hs.out; have hV := hV.out
  subst hz
  refine ⟨_, _, rfl, ⟨by omega, by omega⟩, ⟨by omega, by omega⟩, ?_, hb⟩
  show _ = _
  subst hv
  omega

set_option maxHeartbeats 400000 in
theorem addMul_any (vl vh V x y : Int) (w : World) (hl : 0 ≤ vl) (hl' : vl < 18446744073709551616) (hh : 0 ≤ vh) (hh' : vh < 18446744073709551616)
    (hx : 0 ≤ x) (hx' : x < 18446744073709551616) (hy : 0 ≤ y) (hy' : y < 18446744073709551616) (hV : Hid (vl + 18446744073709551616 * vh = V)) (hs : Hid (V + x * y < 340282366920938463463374607431768211456)) :
    Calls Tryd.prog 94 #[.agg #[.int .u64 vl, .int .u64 vh], .int .u64 x, .int .u64 y] w (Res128 w (V + x * y)) := by
  go_enter Tryd.func94, Tryd.ntmps94
  go_wp2_with fail
  refine (mul64 x y _ hx hx' hy hy').mono ?_
  rintro e w1 ⟨hi, lo, rfl, ⟨h1, h2⟩, ⟨h3, h4⟩, H, rfl⟩
  have k0 : 0 ≤ (lo + vl) / 18446744073709551616 := by omega
  have k1 : (lo + vl) / 18446744073709551616 ≤ 1 := by omega
  go_wp2_with (first | simp only [add64_0 lo vl h3 hl] | simp only [add64 hi vh _ h1 hh k0 k1])
  exact bodyPost_ret (v := .agg #[.int .u64 ((lo + vl) % 18446744073709551616), .int .u64 ((hi + vh + (lo + vl) / 18446744073709551616) % 18446744073709551616)]) (by simp [results, Tryd.results94, go_sem]) rfl
    (res128_mk h1 h2 h3 h4 hl hl' hh hh' H (by grind) hV hs rfl (((Below.refl _ _).alloc (Nat.le_refl _) _).alloc (by simp) _))

set_option maxHeartbeats 400000 in
theorem addMul19_any (vl vh V x y : Int) (w : World) (hl : 0 ≤ vl) (hl' : vl < 18446744073709551616) (hh : 0 ≤ vh) (hh' : vh < 18446744073709551616)
    (hx : 0 ≤ x) (hx' : x < 576460752303423488) (hy : 0 ≤ y) (hy' : y < 18446744073709551616) (hV : Hid (vl + 18446744073709551616 * vh = V)) (hs : Hid (V + 19 * (x * y) < 340282366920938463463374607431768211456)) :
    Calls Tryd.prog 93 #[.agg #[.int .u64 vl, .int .u64 vh], .int .u64 x, .int .u64 y] w (Res128 w (V + 19 * (x * y))) := by
  go_enter Tryd.func93, Tryd.ntmps93
  go_wp2_with fail
  refine (mul19_any x _ hx hx').mono ?_
  rintro e w1 ⟨rfl, rfl⟩
  go_wp2_with fail
  refine (mul64 (19 * x) y _ (by omega) (by omega) hy hy').mono ?_
  rintro e w1 ⟨hi, lo, rfl, ⟨h1, h2⟩, ⟨h3, h4⟩, H, rfl⟩
  have k0 : 0 ≤ (lo + vl) / 18446744073709551616 := by omega
  have k1 : (lo + vl) / 18446744073709551616 ≤ 1 := by omega
  go_wp2_with (first | simp only [add64_0 lo vl h3 hl] | simp only [add64 hi vh _ h1 hh k0 k1])
  exact bodyPost_ret (v := .agg #[.int .u64 ((lo + vl) % 18446744073709551616), .int .u64 ((hi + vh + (lo + vl) / 18446744073709551616) % 18446744073709551616)]) (by simp [results, Tryd.results93, go_sem]) rfl
    (res128_mk h1 h2 h3 h4 hl hl' hh hh' H (by grind) hV hs rfl (((Below.refl _ _).alloc (Nat.le_refl _) _).alloc (by simp) _))

set_option maxHeartbeats 400000 in
theorem addMul38_any (vl vh V x y : Int) (w : World) (hl : 0 ≤ vl) (hl' : vl < 18446744073709551616) (hh : 0 ≤ vh) (hh' : vh < 18446744073709551616)
    (hx : 0 ≤ x) (hx' : x < 576460752303423488) (hy : 0 ≤ y) (hy' : y < 9223372036854775808) (hV : Hid (vl + 18446744073709551616 * vh = V)) (hs : Hid (V + 38 * (x * y) < 340282366920938463463374607431768211456)) :
    Calls Tryd.prog 92 #[.agg #[.int .u64 vl, .int .u64 vh], .int .u64 x, .int .u64 y] w (Res128 w (V + 38 * (x * y))) := by
  go_enter Tryd.func92, Tryd.ntmps92
  go_wp2_with fail
  refine (mul19_any x _ hx hx').mono ?_
  rintro e w1 ⟨rfl, rfl⟩
  go_wp2_with fail
  refine (mul64 (19 * x) (y * 2) _ (by omega) (by omega) (by omega) (by omega)).mono ?_
  rintro e w1 ⟨hi, lo, rfl, ⟨h1, h2⟩, ⟨h3, h4⟩, H, rfl⟩
  have k0 : 0 ≤ (lo + vl) / 18446744073709551616 := by omega
  have k1 : (lo + vl) / 18446744073709551616 ≤ 1 := by omega
  go_wp2_with (first | simp only [add64_0 lo vl h3 hl] | simp only [add64 hi vh _ h1 hh k0 k1])
  exact bodyPost_ret (v := .agg #[.int .u64 ((lo + vl) % 18446744073709551616), .int .u64 ((hi + vh + (lo + vl) / 18446744073709551616) % 18446744073709551616)]) (by simp [results, Tryd.results92, go_sem]) rfl
    (res128_mk h1 h2 h3 h4 hl hl' hh hh' H (by grind) hV hs rfl (((Below.refl _ _).alloc (Nat.le_refl _) _).alloc (by simp) _))

theorem or_u64 (i : Nat) (hi : i ≤ 64) (x y : Int) (hx : 0 ≤ x) (hd : x % 2 ^ i = 0) (hx' : x < 18446744073709551616) (hy : 0 ≤ y) (hy' : y < 2 ^ i) : bits .or .u64 x y = x + y := by
  have h64 : y < 2 ^ 64 := Int.lt_of_lt_of_le hy' (by exact_mod_cast Nat.pow_le_pow_right (by decide) hi)
  exact bits_join .u64 64 (by decide) (fun n h0 h1 => by rw [IntKind.wrap_u64]; omega) i x y hx hd (by omega) hy hy' h64

set_option maxHeartbeats 400000 in
theorem shift51_core (lo hi : Int) (w : World) (hl : 0 ≤ lo) (hl' : lo < 18446744073709551616) (hh : 0 ≤ hi) (hh' : hi < 2251799813685248) :
    Calls Tryd.prog 95 #[.agg #[.int .u64 lo, .int .u64 hi]] w fun e w' => e = .returned (.int .u64 (hi * 8192 + lo / 2251799813685248)) ∧ Below w.heap.size w w' := by
  have k := or_u64 13 (by decide) (hi * 8192) (lo / 2251799813685248) (by omega) (by omega) (by omega) (by omega) (by omega)
  have K : Hid (bits .or .u64 (hi * 8192) (lo / 2251799813685248) = hi * 8192 + lo / 2251799813685248) := hid k
  clear k
  go_enter Tryd.func95, Tryd.ntmps95
  go_wp2_with fail
  go_ret
  exact ⟨congrArg (fun z => Ending.returned (.int .u64 z)) K.out, (Below.refl _ _).alloc (Nat.le_refl _) _⟩

def Shifted (w : World) (lo V : Int) (e : Ending) (w' : World) : Prop :=
  ∃ c : Int, e = .returned (.int .u64 c) ∧ 0 ≤ c ∧ Hid (c * 2251799813685248 + lo % 2251799813685248 = V) ∧ Below w.heap.size w w'

/-- a >> 51, of a number below 2^115. -/
theorem shift51_any (lo hi V : Int) (w : World) (hl : 0 ≤ lo) (hl' : lo < 18446744073709551616) (hh : 0 ≤ hi) (hV : Hid (lo + 18446744073709551616 * hi = V)) (hV' : Hid (V < 41538374868278621028243970633760768)) :
    Calls Tryd.prog 95 #[.agg #[.int .u64 lo, .int .u64 hi]] w (Shifted w lo V) := by
  have h1 := hV.out
  have h2 := hV'.out
  refine (shift51_core lo hi w hl hl' hh (by omega)).mono ?_
  rintro e w' ⟨rfl, hb⟩
  refine ⟨_, rfl, by omega, hid ?_, hb⟩
  omega

end Go.Proofs.YtflmkgecgijncaaDoor
