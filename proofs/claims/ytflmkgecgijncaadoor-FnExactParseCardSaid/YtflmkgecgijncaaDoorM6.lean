/-
  Multiples of a point, and what the ladder tells, over Fin n.
  The field of P numbers; each first coordinate has its curve; orders of points.
  The field of 2^255 - 19 numbers: powers, squares, the order of the base point.
  The ladder's laws for clamped scalars.
-/


/-
  The prime P and the order L of the group.
-/
namespace Mth

/-- A prime number. -/
def Pr (n : Nat) : Prop := 2 ≤ n ∧ ∀ m, m ∣ n → m = 1 ∨ m = n

theorem Pr.cop {p a : Nat} (hp : Pr p) (h : ¬ p ∣ a) : Nat.gcd p a = 1 := by
  rcases hp.2 _ (Nat.gcd_dvd_left p a) with h1 | h1
  · exact h1
  · exact absurd (h1 ▸ Nat.gcd_dvd_right p a) h

theorem Pr.dvd_mul {p a b : Nat} (hp : Pr p) (h : p ∣ a * b) : p ∣ a ∨ p ∣ b := by
  by_cases ha : p ∣ a
  · exact Or.inl ha
  · exact Or.inr (Nat.Coprime.dvd_of_dvd_mul_left (hp.cop ha) h)

/-- Every number from 2 on has a prime divisor. -/
theorem exists_pr : ∀ (k n : Nat), n ≤ k → 2 ≤ n → ∃ p, Pr p ∧ p ∣ n := by
  intro k
  induction k with
  | zero => intro n h1 h2; omega
  | succ k ih =>
    intro n h1 h2
    by_cases hn : ∀ m, m ∣ n → m = 1 ∨ m = n
    · exact ⟨n, ⟨h2, hn⟩, Nat.dvd_refl n⟩
    · have : ∃ m, m ∣ n ∧ m ≠ 1 ∧ m ≠ n := by
        apply Classical.byContradiction
        intro hc
        apply hn
        intro m hm
        by_cases h1 : m = 1
        · exact Or.inl h1
        · by_cases h2 : m = n
          · exact Or.inr h2
          · exact absurd ⟨m, hm, h1, h2⟩ hc
      obtain ⟨m, hm, m1, m2⟩ := this
      have hle := Nat.le_of_dvd (by omega) hm
      have h0 : m ≠ 0 := by rintro rfl; have := Nat.eq_zero_of_zero_dvd hm; omega
      obtain ⟨p, hp, hpm⟩ := ih m (by omega) (by omega)
      exact ⟨p, hp, Nat.dvd_trans hpm hm⟩

/-- A composite number has a prime divisor whose square is at most it. -/
theorem small_pr {n : Nat} (h2 : 2 ≤ n) (hn : ¬ Pr n) : ∃ p, Pr p ∧ p ∣ n ∧ p * p ≤ n := by
  have : ∃ m, m ∣ n ∧ m ≠ 1 ∧ m ≠ n := by
    apply Classical.byContradiction
    intro hc
    apply hn
    refine ⟨h2, fun m hm => ?_⟩
    by_cases h1 : m = 1
    · exact Or.inl h1
    · by_cases h2 : m = n
      · exact Or.inr h2
      · exact absurd ⟨m, hm, h1, h2⟩ hc
  obtain ⟨m, ⟨c, hc⟩, m1, m2⟩ := this
  have hm0 : m ≠ 0 := by rintro rfl; simp at hc; omega
  have hc0 : c ≠ 0 := by rintro rfl; simp at hc; omega
  have hc1 : c ≠ 1 := by rintro rfl; simp at hc; omega
  by_cases hle : m ≤ c
  · obtain ⟨p, hp, hpm⟩ := exists_pr m m (Nat.le_refl _) (by omega)
    have := Nat.le_of_dvd (by omega) hpm
    exact ⟨p, hp, Nat.dvd_trans hpm ⟨c, hc⟩, by rw [hc]; exact Nat.mul_le_mul this (Nat.le_trans this hle)⟩
  · obtain ⟨p, hp, hpc⟩ := exists_pr c c (Nat.le_refl _) (by omega)
    have := Nat.le_of_dvd (by omega) hpc
    exact ⟨p, hp, Nat.dvd_trans hpc ⟨m, by rw [hc, Nat.mul_comm]⟩, by rw [hc, Nat.mul_comm m c]; exact Nat.mul_le_mul this (by omega)⟩

/-! Binomial coefficients and Fermat's theorem. -/
def ch : Nat → Nat → Nat
  | _, 0 => 1
  | 0, _ + 1 => 0
  | n + 1, k + 1 => ch n k + ch n (k + 1)

theorem ch_gt : ∀ (n k : Nat), n < k → ch n k = 0
  | n, 0, h => absurd h (Nat.not_lt_zero _)
  | 0, _ + 1, _ => rfl
  | n + 1, k + 1, h => by rw [ch, ch_gt n k (by omega), ch_gt n (k + 1) (by omega)]

theorem ch_self : ∀ n, ch n n = 1
  | 0 => rfl
  | n + 1 => by rw [ch, ch_self n, ch_gt n (n + 1) (by omega)]

theorem ch_mul : ∀ (n k : Nat), (k + 1) * ch (n + 1) (k + 1) = (n + 1) * ch n k
  | 0, 0 => rfl
  | 0, k + 1 => by
    have e : ch (0 + 1) (k + 1 + 1) = ch 0 (k + 1) + ch 0 (k + 2) := rfl
    rw [e, ch_gt 0 (k + 1) (by omega), ch_gt 0 (k + 2) (by omega)]
    simp
  | n + 1, 0 => by
    have := ch_mul n 0
    have e : ch (n + 1 + 1) (0 + 1) = ch (n + 1) 0 + ch (n + 1) (0 + 1) := rfl
    have e0 : ∀ m, ch m 0 = 1 := fun m => by cases m <;> rfl
    rw [e, e0]
    rw [e0] at this
    omega
  | n + 1, k + 1 => by
    have h1 := ch_mul n k
    have h2 := ch_mul n (k + 1)
    have e : ch (n + 1) (k + 1) = ch n k + ch n (k + 1) := rfl
    have e2 : ch (n + 1 + 1) (k + 1 + 1) = ch (n + 1) (k + 1) + ch (n + 1) (k + 1 + 1) := rfl
    rw [e2]
    generalize ch (n + 1) (k + 1 + 1) = z at *
    generalize ch (n + 1) (k + 1) = t at *
    generalize ch n k = x at *
    generalize ch n (k + 1) = y at *
    grind

theorem pr_ch {p k : Nat} (hp : Pr p) (h0 : 0 < k) (h1 : k < p) : p ∣ ch p k := by
  obtain ⟨q, rfl⟩ : ∃ q, p = q + 1 := ⟨p - 1, by have := hp.1; omega⟩
  obtain ⟨j, rfl⟩ : ∃ j, k = j + 1 := ⟨k - 1, by omega⟩
  have h := ch_mul q j
  have hd : q + 1 ∣ (j + 1) * ch (q + 1) (j + 1) := ⟨_, h⟩
  rcases hp.dvd_mul hd with h | h
  · have := Nat.le_of_dvd (by omega) h; omega
  · exact h

/-- The sum of the first m terms of (a+1)^n. -/
def bsum (a n : Nat) : Nat → Nat
  | 0 => 0
  | m + 1 => bsum a n m + ch n m * a ^ m

theorem bsum_step (a n : Nat) : ∀ m, bsum a (n + 1) (m + 1) = a * bsum a n m + bsum a n (m + 1)
  | 0 => by simp [bsum, ch]
  | m + 1 => by
    have ih := bsum_step a n m
    have e1 : bsum a (n + 1) (m + 1 + 1) = bsum a (n + 1) (m + 1) + ch (n + 1) (m + 1) * a ^ (m + 1) := rfl
    have e2 : bsum a n (m + 1 + 1) = bsum a n (m + 1) + ch n (m + 1) * a ^ (m + 1) := rfl
    have e3 : bsum a n (m + 1) = bsum a n m + ch n m * a ^ m := rfl
    rw [e1, ih, e2]
    have e4 : ch (n + 1) (m + 1) = ch n m + ch n (m + 1) := rfl
    rw [e4, Nat.add_mul]
    have e5 : a * bsum a n (m + 1) = a * bsum a n m + ch n m * a ^ (m + 1) := by
      rw [e3, Nat.mul_add, Nat.pow_succ]
      congr 1
      rw [← Nat.mul_assoc, Nat.mul_comm a, Nat.mul_assoc, Nat.mul_comm a]
    rw [e5]
    omega

theorem bsum_all (a : Nat) : ∀ n, bsum a n (n + 1) = (a + 1) ^ n
  | 0 => by simp [bsum, ch]
  | n + 1 => by
    rw [bsum_step a n (n + 1)]
    have e : bsum a n (n + 1 + 1) = bsum a n (n + 1) := by
      show bsum a n (n + 1) + ch n (n + 1) * a ^ (n + 1) = _
      rw [ch_gt n (n + 1) (by omega)]; simp
    rw [e, bsum_all a n, Nat.pow_succ, Nat.mul_add, Nat.mul_comm a]; omega

theorem bsum_mod {p : Nat} (hp : Pr p) (a : Nat) : ∀ m, m < p → bsum a p (m + 1) % p = 1 % p
  | 0, _ => by simp [bsum, ch]
  | m + 1, h => by
    show (bsum a p (m + 1) + ch p (m + 1) * a ^ (m + 1)) % p = _
    obtain ⟨c, hc⟩ := pr_ch hp (show 0 < m + 1 by omega) h
    rw [hc, Nat.mul_assoc, Nat.add_mul_mod_self_left]
    exact bsum_mod hp a m (by omega)

theorem fermat {p : Nat} (hp : Pr p) : ∀ a, a ^ p % p = a % p
  | 0 => by have := hp.1; rw [Nat.zero_pow (by omega)]
  | a + 1 => by
    rw [← bsum_all a p]
    show (bsum a p p + ch p p * a ^ p) % p = _
    obtain ⟨q, hq⟩ : ∃ q, p = q + 1 := ⟨p - 1, by have := hp.1; omega⟩
    have h := bsum_mod hp a q (by omega)
    have e : bsum a p p = bsum a p (q + 1) := by rw [← hq]
    rw [e, ch_self, Nat.one_mul, Nat.add_mod, h, fermat hp a, ← Nat.add_mod, Nat.add_comm]

theorem dvd_sub_mod {p a b : Nat} (h : b ≤ a) (e : a % p = b % p) : p ∣ a - b := by
  have h1 := Nat.div_add_mod a p
  have h2 := Nat.div_add_mod b p
  refine ⟨a / p - b / p, ?_⟩
  rw [Nat.mul_sub]
  omega

theorem fermat1 {p a : Nat} (hp : Pr p) (ha : ¬ p ∣ a) : a ^ (p - 1) % p = 1 := by
  have h := fermat hp a
  have h2 := hp.1
  have e : a ^ p = a * a ^ (p - 1) := by
    rw [Nat.mul_comm, ← Nat.pow_succ]; congr 1; omega
  have hd : p ∣ a * (a ^ (p - 1) - 1) := by
    have : a ^ p - a = a * (a ^ (p - 1) - 1) := by rw [e, Nat.mul_sub, Nat.mul_one]
    rw [← this]
    have hle : a ≤ a ^ p := Nat.le_self_pow (by omega) a
    exact (dvd_sub_mod hle h)
  rcases hp.dvd_mul hd with h' | h'
  · exact absurd h' ha
  · have hpos : 1 ≤ a ^ (p - 1) := Nat.pow_pos (Nat.pos_of_ne_zero (by rintro rfl; exact ha (Nat.dvd_zero p)))
    obtain ⟨c, hc⟩ := h'
    have : a ^ (p - 1) = 1 + p * c := by omega
    rw [this, Nat.add_mul_mod_self_left, Nat.mod_eq_of_lt (by omega)]

/-! Powers modulo a number, reckoned; Pocklington's test. -/
/-- a to the e, times b, modulo n: by the bits of e; k: steps enough. -/
def pm (n : Nat) : Nat → Nat → Nat → Nat → Nat
  | 0, _, _, b => b
  | k + 1, a, e, b => pm n k (a * a % n) (e / 2) (if e % 2 = 0 then b else b * a % n)

theorem pm_eq (n : Nat) : ∀ (k a e b : Nat), e < 2 ^ k → pm n k a e b % n = b * a ^ e % n
  | 0, a, e, b, h => by
    have : e = 0 := by simp at h; omega
    subst this; simp [pm]
  | k + 1, a, e, b, h => by
    have hk : e / 2 < 2 ^ k := by rw [Nat.pow_succ] at h; omega
    rw [pm, pm_eq n k _ _ _ hk]
    have h2 : (a * a % n) ^ (e / 2) % n = (a ^ (2 * (e / 2))) % n := by
      rw [← Nat.pow_mod, Nat.pow_mul, Nat.pow_two]
    rw [Nat.mul_mod, h2]
    split
    · rename_i h0
      have : 2 * (e / 2) = e := by omega
      rw [this, ← Nat.mul_mod]
    · rename_i h0
      have e1 : e = 2 * (e / 2) + 1 := by omega
      have : a ^ e = a ^ (2 * (e / 2)) * a := by rw [← Nat.pow_succ]; exact congrArg (a ^ ·) e1
      rw [this, Nat.mod_mod, ← Nat.mul_mod]
      congr 1
      rw [Nat.mul_assoc, Nat.mul_comm a]

theorem pow_gcd {r b : Nat} : ∀ (k m n : Nat), m + n ≤ k → b ^ m % r = 1 → b ^ n % r = 1 → b ^ (Nat.gcd m n) % r = 1 := by
  have key : ∀ m n, m ≤ n → b ^ m % r = 1 → b ^ n % r = 1 → b ^ (n - m) % r = 1 := by
    intro m n h h1 h2
    have e : b ^ n = b ^ (n - m) * b ^ m := by rw [← Nat.pow_add]; congr 1; omega
    rw [e, Nat.mul_mod, h1, Nat.mul_one, Nat.mod_mod] at h2
    exact h2
  intro k
  induction k with
  | zero => intro m n h h1 h2; obtain rfl : m = 0 := by omega
            obtain rfl : n = 0 := by omega
            exact h1
  | succ k ih =>
    intro m n h h1 h2
    by_cases h0 : m = 0
    · subst h0; rw [Nat.gcd_zero_left]; exact h2
    by_cases h0' : n = 0
    · subst h0'; rw [Nat.gcd_zero_right]; exact h1
    by_cases hle : m ≤ n
    · have := ih m (n - m) (by omega) h1 (key m n hle h1 h2)
      rwa [Nat.gcd_sub_self_right hle] at this
    · have := ih (m - n) n (by omega) (key n m (by omega) h2 h1) h2
      rwa [Nat.gcd_sub_self_left (by omega)] at this

/-- Of each prime divisor r of n the number r - 1 is a multiple of the prime q. -/
theorem pock {n q R a r : Nat} (hq : Pr q) (hn : n = q * R + 1) (h1 : pm n 300 a (q * R) 1 % n = 1) (hb : q * R < 2 ^ 300)
    (h2 : Nat.gcd (pm n 300 a R 1 + (n - 1)) n = 1) (hR : R < 2 ^ 300) (hr : Pr r) (hrn : r ∣ n) : q ∣ r - 1 := by
  rw [pm_eq n 300 a (q * R) 1 hb, Nat.one_mul] at h1
  have h3 := pm_eq n 300 a R 1 hR
  rw [Nat.one_mul] at h3
  generalize pm n 300 a R 1 = z at *
  obtain ⟨c, hc⟩ := hrn
  have hr2 := hr.1
  have m1 : ∀ x y : Nat, x % n = y % n → x % r = y % r := by
    intro x y h
    have := congrArg (· % r) h
    simpa [hc, Nat.mod_mul_right_mod] using this
  have h4 : a ^ (q * R) % r = 1 := by
    have := m1 (a ^ (q * R)) 1 (by rw [h1, Nat.mod_eq_of_lt]; rcases Nat.eq_zero_or_pos R with h | h
                                   · subst h; simp at hn; subst hn; simp at h1
                                   · have := Nat.mul_le_mul hq.1 h; omega)
    rw [this, Nat.mod_eq_of_lt (by omega)]
  have h5 := m1 _ _ h3
  by_cases hcop : q ∣ r - 1
  · exact hcop
  exfalso
  have hra : ¬ r ∣ a ^ R := by
    intro hd
    have : r ∣ a ^ (q * R) := by rw [Nat.mul_comm, Nat.pow_mul]; exact Nat.dvd_trans hd (Nat.dvd_of_pow_dvd (Nat.le_of_lt hq.1) (Nat.dvd_refl _))
    have := Nat.mod_eq_zero_of_dvd this
    omega
  have h6 := fermat1 hr hra
  have h7 : (a ^ R) ^ q % r = 1 := by rw [← Nat.pow_mul, Nat.mul_comm R]; exact h4
  have h8 := pow_gcd _ _ _ (Nat.le_refl _) h7 h6
  rw [hq.cop hcop, Nat.pow_one, ← h5] at h8
  have h9 : r ∣ z + (n - 1) := by
    have e : z + (n - 1) + 1 = z + r * c := by omega
    have : (z + (n - 1) + 1) % r = 1 := by rw [e, Nat.add_mul_mod_self_left]; exact h8
    apply Nat.dvd_of_mod_eq_zero
    have h10 := Nat.add_mod (z + (n - 1)) 1 r
    rw [this] at h10
    have hlt := Nat.mod_lt (z + (n - 1)) (show 0 < r by omega)
    rw [Nat.mod_eq_of_lt (show 1 < r by omega)] at h10
    by_cases hh : (z + (n - 1)) % r + 1 < r
    · rw [Nat.mod_eq_of_lt hh] at h10; omega
    · have : (z + (n - 1)) % r + 1 = r := by omega
      rw [this, Nat.mod_self] at h10; omega
  have := Nat.dvd_gcd h9 ⟨c, hc⟩
  rw [h2] at this
  have := Nat.le_of_dvd (by omega) this
  omega

/-- Pocklington's test by one prime q. -/
theorem pock1 {n q R : Nat} (a : Nat) (hq : Pr q) (hn : n = q * R + 1) (h1 : pm n 300 a (q * R) 1 % n = 1) (hb : q * R < 2 ^ 300)
    (h2 : Nat.gcd (pm n 300 a R 1 + (n - 1)) n = 1) (hR : R < 2 ^ 300) (hs : n < (q + 1) * (q + 1)) (hn2 : 2 ≤ n) : Pr n := by
  apply Classical.byContradiction
  intro hc
  obtain ⟨r, hr, hrn, hle⟩ := small_pr hn2 hc
  have hd := pock hq hn h1 hb h2 hR hr hrn
  have := Nat.le_of_dvd (by have := hr.1; omega) hd
  have hr2 := hr.1
  have := Nat.mul_le_mul (show q + 1 ≤ r by omega) (show q + 1 ≤ r by omega)
  omega

theorem dvd_two {q q' x : Nat} (hq : Pr q) (hq' : Pr q') (hne : q ≠ q') (h1 : q ∣ x) (h2 : q' ∣ x) : q * q' ∣ x := by
  obtain ⟨c, rfl⟩ := h1
  rcases hq'.dvd_mul h2 with h | h
  · rcases hq.2 _ h with e | e
    · have := hq'.1; omega
    · exact absurd e.symm hne
  · obtain ⟨d, rfl⟩ := h
    exact ⟨d, (Nat.mul_assoc _ _ _).symm⟩

/-- Pocklington's test by two primes. -/
theorem pock2 {n q R q' R' : Nat} (a : Nat) (hq : Pr q) (hq' : Pr q') (hne : q ≠ q') (hn : n = q * R + 1) (hn' : n = q' * R' + 1) (h1 : pm n 300 a (q * R) 1 % n = 1) (hb : q * R < 2 ^ 300)
    (h2 : Nat.gcd (pm n 300 a R 1 + (n - 1)) n = 1) (hR : R < 2 ^ 300) (h2' : Nat.gcd (pm n 300 a R' 1 + (n - 1)) n = 1) (hR' : R' < 2 ^ 300)
    (hs : n < (q * q' + 1) * (q * q' + 1)) (hn2 : 2 ≤ n) : Pr n := by
  apply Classical.byContradiction
  intro hc
  obtain ⟨r, hr, hrn, hle⟩ := small_pr hn2 hc
  have hd := pock hq hn h1 hb h2 hR hr hrn
  have hd' := pock hq' hn' (by have : q' * R' = q * R := by omega
                               rw [this]; exact h1) (by omega) h2' hR' hr hrn
  have := Nat.le_of_dvd (by have := hr.1; omega) (dvd_two hq hq' hne hd hd')
  have hr2 := hr.1
  have := Nat.mul_le_mul (show q * q' + 1 ≤ r by omega) (show q * q' + 1 ≤ r by omega)
  omega

/-- No number from k to m + k - 1 divides n. -/
def nodiv (n : Nat) : Nat → Nat → Bool
  | 0, _ => true
  | m + 1, k => n % k != 0 && nodiv n m (k + 1)

theorem nodiv_eq (n : Nat) : ∀ (m k : Nat), nodiv n m k = true → ∀ d, k ≤ d → d < m + k → ¬ d ∣ n
  | 0, k, _, d, h1, h2 => by omega
  | m + 1, k, h, d, h1, h2 => by
    rw [nodiv, Bool.and_eq_true] at h
    by_cases e : d = k
    · subst e; intro hd; have := Nat.mod_eq_zero_of_dvd hd; simp [this] at h
    · exact nodiv_eq n m (k + 1) h.2 d (by omega) (by omega)

theorem trial {n m : Nat} (h : nodiv n m 2 = true) (hs : n < (m + 2) * (m + 2)) (h2 : 2 ≤ n) : Pr n := by
  apply Classical.byContradiction
  intro hc
  obtain ⟨r, hr, hrn, hle⟩ := small_pr h2 hc
  have := nodiv_eq n m 2 h r hr.1
  by_cases hlt : r < m + 2
  · exact this hlt hrn
  · have := Nat.mul_le_mul (show m + 2 ≤ r by omega) (show m + 2 ≤ r by omega)
    omega

theorem pr_8574133 : Pr 8574133 := trial (m := 2929) (by decide +kernel) (by decide) (by decide)
theorem pr_127 : Pr 127 := trial (m := 12) (by decide +kernel) (by decide) (by decide)
theorem pr_1919519569386763 : Pr 1919519569386763 :=
  pock2 (q := 8574133) (R := 223873314) (q' := 127) (R' := 15114327318006) 2 pr_8574133 pr_127 (by decide +kernel) (by decide +kernel) (by decide +kernel) (by decide +kernel) (by decide +kernel) (by decide +kernel) (by decide +kernel) (by decide +kernel) (by decide +kernel) (by decide +kernel) (by decide +kernel)
theorem pr_569003 : Pr 569003 := trial (m := 755) (by decide +kernel) (by decide) (by decide)
theorem pr_2773320623 : Pr 2773320623 :=
  pock1 (q := 569003) (R := 4874) 2 pr_569003 (by decide +kernel) (by decide +kernel) (by decide +kernel) (by decide +kernel) (by decide +kernel) (by decide +kernel) (by decide +kernel)
theorem pr_72106336199 : Pr 72106336199 :=
  pock1 (q := 2773320623) (R := 26) 2 pr_2773320623 (by decide +kernel) (by decide +kernel) (by decide +kernel) (by decide +kernel) (by decide +kernel) (by decide +kernel) (by decide +kernel)
theorem pr_75445702479781427272750846543864801 : Pr 75445702479781427272750846543864801 :=
  pock2 (q := 1919519569386763) (R := 39304471641247389600) (q' := 72106336199) (R' := 1046311689884858398375200) 2 pr_1919519569386763 pr_72106336199 (by decide +kernel) (by decide +kernel) (by decide +kernel) (by decide +kernel) (by decide +kernel) (by decide +kernel) (by decide +kernel) (by decide +kernel) (by decide +kernel) (by decide +kernel) (by decide +kernel)
theorem pr_430751 : Pr 430751 := trial (m := 657) (by decide +kernel) (by decide) (by decide)
theorem pr_4153 : Pr 4153 := trial (m := 65) (by decide +kernel) (by decide) (by decide)
theorem pr_31757755568855353 : Pr 31757755568855353 :=
  pock2 (q := 430751) (R := 73726481352) (q' := 4153) (R' := 7646943310584) 2 pr_430751 pr_4153 (by decide +kernel) (by decide +kernel) (by decide +kernel) (by decide +kernel) (by decide +kernel) (by decide +kernel) (by decide +kernel) (by decide +kernel) (by decide +kernel) (by decide +kernel) (by decide +kernel)
theorem pr_74058212732561358302231226437062788676166966415465897661863160754340907 : Pr 74058212732561358302231226437062788676166966415465897661863160754340907 :=
  pock2 (q := 75445702479781427272750846543864801) (R := 981609426360740691344999861639072106) (q' := 31757755568855353) (R' := 2331972502653487852620185443007392165117953542933313402) 2 pr_75445702479781427272750846543864801 pr_31757755568855353 (by decide +kernel) (by decide +kernel) (by decide +kernel) (by decide +kernel) (by decide +kernel) (by decide +kernel) (by decide +kernel) (by decide +kernel) (by decide +kernel) (by decide +kernel) (by decide +kernel)
theorem pr_P : Pr 57896044618658097711785492504343953926634992332820282019728792003956564819949 :=
  pock1 (q := 74058212732561358302231226437062788676166966415465897661863160754340907) (R := 781764) 2 pr_74058212732561358302231226437062788676166966415465897661863160754340907 (by decide +kernel) (by decide +kernel) (by decide +kernel) (by decide +kernel) (by decide +kernel) (by decide +kernel) (by decide +kernel)
theorem pr_1224481 : Pr 1224481 := trial (m := 1107) (by decide +kernel) (by decide) (by decide)
theorem pr_531581 : Pr 531581 := trial (m := 730) (by decide +kernel) (by decide) (by decide)
theorem pr_1257559732178653 : Pr 1257559732178653 :=
  pock2 (q := 1224481) (R := 1027014492) (q' := 531581) (R' := 2365697292) 2 pr_1224481 pr_531581 (by decide +kernel) (by decide +kernel) (by decide +kernel) (by decide +kernel) (by decide +kernel) (by decide +kernel) (by decide +kernel) (by decide +kernel) (by decide +kernel) (by decide +kernel) (by decide +kernel)
theorem pr_4434155615661930479 : Pr 4434155615661930479 :=
  pock1 (q := 1257559732178653) (R := 3526) 2 pr_1257559732178653 (by decide +kernel) (by decide +kernel) (by decide +kernel) (by decide +kernel) (by decide +kernel) (by decide +kernel) (by decide +kernel)
theorem pr_172054593956031949258510691 : Pr 172054593956031949258510691 :=
  pock1 (q := 4434155615661930479) (R := 38802110) 2 pr_4434155615661930479 (by decide +kernel) (by decide +kernel) (by decide +kernel) (by decide +kernel) (by decide +kernel) (by decide +kernel) (by decide +kernel)
theorem pr_19757330305831588566944191468367130476339 : Pr 19757330305831588566944191468367130476339 :=
  pock1 (q := 172054593956031949258510691) (R := 114831751082918) 2 pr_172054593956031949258510691 (by decide +kernel) (by decide +kernel) (by decide +kernel) (by decide +kernel) (by decide +kernel) (by decide +kernel) (by decide +kernel)
theorem pr_276602624281642239937218680557139826668747 : Pr 276602624281642239937218680557139826668747 :=
  pock1 (q := 19757330305831588566944191468367130476339) (R := 14) 2 pr_19757330305831588566944191468367130476339 (by decide +kernel) (by decide +kernel) (by decide +kernel) (by decide +kernel) (by decide +kernel) (by decide +kernel) (by decide +kernel)
theorem pr_L : Pr 7237005577332262213973186563042994240857116359379907606001950938285454250989 :=
  pock1 (q := 276602624281642239937218680557139826668747) (R := 26163907866482859529727157400808004) 2 pr_276602624281642239937218680557139826668747 (by decide +kernel) (by decide +kernel) (by decide +kernel) (by decide +kernel) (by decide +kernel) (by decide +kernel) (by decide +kernel)

end Mth

/-
  The group of the Edwards curve over Fin n, and the ladder's two formulas.
-/
namespace Mth
section
variable {n : Nat} [NeZero n]

/-- Fin n is a field, iv tells inverses, and 2 is not 0. -/
structure Fld (n : Nat) [NeZero n] (iv : Fin n → Fin n) : Prop where
  inv : ∀ a : Fin n, a ≠ 0 → a * iv a = 1
  two : (2 : Fin n) ≠ 0

theorem Fld.dom {iv : Fin n → Fin n} (h : Fld n iv) {a b : Fin n} (e : a * b = 0) : a = 0 ∨ b = 0 := by
  by_cases ha : a = 0
  · exact Or.inl ha
  · right; have := h.inv a ha; grind

theorem Fld.ne_mul {iv : Fin n → Fin n} (h : Fld n iv) {a b : Fin n} (ha : a ≠ 0) (hb : b ≠ 0) : a * b ≠ 0 := by
  intro e; rcases h.dom e with h | h
  · exact ha h
  · exact hb h

theorem Fld.cancel {iv : Fin n → Fin n} (h : Fld n iv) {a b c : Fin n} (ha : a ≠ 0) (e : a * b = a * c) : b = c := by
  have := h.inv a ha; grind

/-- The point lies on the Edwards curve x^2 + y^2 = 1 + D x^2 y^2. -/
def On (D x y : Fin n) : Prop := x * x + y * y = 1 + D * (x * x) * (y * y)

/-- D is no square. -/
def NonSq (D : Fin n) : Prop := ∀ r : Fin n, r * r ≠ D

theorem NonSq.mul {iv : Fin n → Fin n} (h : Fld n iv) {D : Fin n} (hD : NonSq D) {a b : Fin n} (e : a * a = D * (b * b)) : a = 0 ∧ b = 0 := by
  by_cases hb : b = 0
  · subst hb
    have : a * a = 0 := by grind
    rcases h.dom this with h1 | h1
    · exact ⟨h1, rfl⟩
    · exact ⟨h1, rfl⟩
  · exfalso
    have := h.inv b hb
    exact hD (a * iv b) (by grind)

/-- Completeness: the denominators of the sum of two points are not 0. -/
theorem complete {iv : Fin n → Fin n} (h : Fld n iv) {D : Fin n} (hD : NonSq D) {x1 y1 x2 y2 e : Fin n} (h1 : On D x1 y1) (h2 : On D x2 y2)
    (he : e * e = 1) (hd : D * (x1 * x2 * y1 * y2) = e) : False := by
  unfold On at h1 h2
  have k1 : (x1 + e * y1) * (x1 + e * y1) = D * ((x1 * y1 * (x2 + y2)) * (x1 * y1 * (x2 + y2))) := by grind
  have k2 : (x1 - e * y1) * (x1 - e * y1) = D * ((x1 * y1 * (x2 - y2)) * (x1 * y1 * (x2 - y2))) := by grind
  have he0 : e ≠ 0 := by intro h0; have h3 : (0 : Fin n) = 1 := by grind
                         exact h.two (by grind)
  have a1 := (hD.mul h k1).2
  have a2 := (hD.mul h k2).2
  have hx : 2 * (x1 * y1 * x2) = 0 := by grind
  have hx : x1 * y1 * x2 = 0 := by
    rcases h.dom hx with h3 | h3
    · exact absurd h3 h.two
    · exact h3
  exact he0 (by grind)

variable (iv : Fin n → Fin n)
/-- The sum of two points. -/
def addx (D x1 y1 x2 y2 : Fin n) : Fin n := (x1 * y2 + y1 * x2) * iv (1 + D * (x1 * x2 * y1 * y2))
def addy (D x1 y1 x2 y2 : Fin n) : Fin n := (y1 * y2 - x1 * x2) * iv (1 - D * (x1 * x2 * y1 * y2))

variable {iv}
theorem den_pos (h : Fld n iv) {D : Fin n} (hD : NonSq D) {x1 y1 x2 y2 : Fin n} (h1 : On D x1 y1) (h2 : On D x2 y2) :
    1 + D * (x1 * x2 * y1 * y2) ≠ 0 := by
  intro h0
  exact complete h hD (e := -1) h1 h2 (by grind) (by grind)
theorem den_neg (h : Fld n iv) {D : Fin n} (hD : NonSq D) {x1 y1 x2 y2 : Fin n} (h1 : On D x1 y1) (h2 : On D x2 y2) :
    1 - D * (x1 * x2 * y1 * y2) ≠ 0 := by
  intro h0
  exact complete h hD (e := 1) h1 h2 (by grind) (by grind)

theorem addx_eq (h : Fld n iv) {D : Fin n} (hD : NonSq D) {x1 y1 x2 y2 : Fin n} (h1 : On D x1 y1) (h2 : On D x2 y2) :
    addx iv D x1 y1 x2 y2 * (1 + D * (x1 * x2 * y1 * y2)) = x1 * y2 + y1 * x2 := by
  have := h.inv _ (den_pos h hD h1 h2)
  unfold addx
  grind
theorem addy_eq (h : Fld n iv) {D : Fin n} (hD : NonSq D) {x1 y1 x2 y2 : Fin n} (h1 : On D x1 y1) (h2 : On D x2 y2) :
    addy iv D x1 y1 x2 y2 * (1 - D * (x1 * x2 * y1 * y2)) = y1 * y2 - x1 * x2 := by
  have := h.inv _ (den_neg h hD h1 h2)
  unfold addy
  grind

theorem closed_core (D x1 y1 x2 y2 x3 y3 p q : Fin n) (h1 : x1 * x1 + y1 * y1 = 1 + D * (x1 * x1) * (y1 * y1)) (h2 : x2 * x2 + y2 * y2 = 1 + D * (x2 * x2) * (y2 * y2))
    (hx : x3 = (x1 * y2 + y1 * x2) * p) (hy : y3 = (y1 * y2 - x1 * x2) * q)
    (hp : (1 + D * (x1 * x2 * y1 * y2)) * p = 1) (hq : (1 - D * (x1 * x2 * y1 * y2)) * q = 1) :
    x3 * x3 + y3 * y3 = 1 + D * (x3 * x3) * (y3 * y3) := by
  have key : (x1 * y2 + y1 * x2) * (x1 * y2 + y1 * x2) * ((1 - D * (x1 * x2 * y1 * y2)) * (1 - D * (x1 * x2 * y1 * y2))) + (y1 * y2 - x1 * x2) * (y1 * y2 - x1 * x2) * ((1 + D * (x1 * x2 * y1 * y2)) * (1 + D * (x1 * x2 * y1 * y2)))
     = (1 + D * (x1 * x2 * y1 * y2)) * (1 + D * (x1 * x2 * y1 * y2)) * ((1 - D * (x1 * x2 * y1 * y2)) * (1 - D * (x1 * x2 * y1 * y2))) + D * ((x1 * y2 + y1 * x2) * (x1 * y2 + y1 * x2)) * ((y1 * y2 - x1 * x2) * (y1 * y2 - x1 * x2)) := by
    grind
  generalize x1 * y2 + y1 * x2 = a at *
  generalize y1 * y2 - x1 * x2 = b at *
  generalize 1 + D * (x1 * x2 * y1 * y2) = s at *
  generalize 1 - D * (x1 * x2 * y1 * y2) = t at *
  clear h1 h2
  subst hx hy
  have hp2 : s * s * (p * p) = 1 := by grind
  have hq2 : t * t * (q * q) = 1 := by grind
  have := congrArg (fun z => z * ((p * p) * (q * q))) key
  grind

theorem closed (h : Fld n iv) {D : Fin n} (hD : NonSq D) {x1 y1 x2 y2 : Fin n} (h1 : On D x1 y1) (h2 : On D x2 y2) :
    On D (addx iv D x1 y1 x2 y2) (addy iv D x1 y1 x2 y2) :=
  closed_core D x1 y1 x2 y2 _ _ _ _ h1 h2 rfl rfl (h.inv _ (den_pos h hD h1 h2)) (h.inv _ (den_neg h hD h1 h2))

theorem addx_comm (D x1 y1 x2 y2 : Fin n) : addx iv D x1 y1 x2 y2 = addx iv D x2 y2 x1 y1 := by
  unfold addx
  have e1 : x1 * y2 + y1 * x2 = x2 * y1 + y2 * x1 := by grind
  have e2 : x1 * x2 * y1 * y2 = x2 * x1 * y2 * y1 := by grind
  rw [e1, e2]
theorem addy_comm (D x1 y1 x2 y2 : Fin n) : addy iv D x1 y1 x2 y2 = addy iv D x2 y2 x1 y1 := by
  unfold addy
  have e1 : y1 * y2 - x1 * x2 = y2 * y1 - x2 * x1 := by grind
  have e2 : x1 * x2 * y1 * y2 = x2 * x1 * y2 * y1 := by grind
  rw [e1, e2]

theorem assoc_x_core (x1 y1 x2 y2 x3 y3 D : Fin n)
  (e1 : x1*x1+y1*y1 = 1 + D*(x1*x1)*(y1*y1))
  (e2 : x2*x2+y2*y2 = 1 + D*(x2*x2)*(y2*y2))
  (e3 : x3*x3+y3*y3 = 1 + D*(x3*x3)*(y3*y3)) :
  ((x1*y2+y1*x2)*(1-D*(x1*x2*y1*y2))*y3 + (y1*y2-x1*x2)*(1+D*(x1*x2*y1*y2))*x3)*((1-D*D*(x2*x3*y2*y3)*(x2*x3*y2*y3)) + D*x1*y1*(x2*y3+y2*x3)*(y2*y3-x2*x3))
  = ((x3*y2+y3*x2)*(1-D*(x3*x2*y3*y2))*y1 + (y3*y2-x3*x2)*(1+D*(x3*x2*y3*y2))*x1)*((1-D*D*(x2*x1*y2*y1)*(x2*x1*y2*y1)) + D*x3*y3*(x2*y1+y2*x1)*(y2*y1-x2*x1)) := by
  grind

theorem assoc_y_core (x1 y1 x2 y2 x3 y3 D : Fin n)
  (e1 : x1*x1+y1*y1 = 1 + D*(x1*x1)*(y1*y1))
  (e2 : x2*x2+y2*y2 = 1 + D*(x2*x2)*(y2*y2))
  (e3 : x3*x3+y3*y3 = 1 + D*(x3*x3)*(y3*y3)) :
  ((y1*y2-x1*x2)*(1+D*(x1*x2*y1*y2))*y3 - (x1*y2+y1*x2)*(1-D*(x1*x2*y1*y2))*x3)*((1-D*D*(x2*x3*y2*y3)*(x2*x3*y2*y3)) - D*x1*y1*(x2*y3+y2*x3)*(y2*y3-x2*x3))
  = ((y3*y2-x3*x2)*(1+D*(x3*x2*y3*y2))*y1 - (x3*y2+y3*x2)*(1-D*(x3*x2*y3*y2))*x1)*((1-D*D*(x2*x1*y2*y1)*(x2*x1*y2*y1)) - D*x3*y3*(x2*y1+y2*x1)*(y2*y1-x2*x1)) := by
  grind

theorem assoc_x (h : Fld n iv) {D : Fin n} (hD : NonSq D) {x1 y1 x2 y2 x3 y3 : Fin n} (h1 : On D x1 y1) (h2 : On D x2 y2) (h3 : On D x3 y3) :
    addx iv D (addx iv D x1 y1 x2 y2) (addy iv D x1 y1 x2 y2) x3 y3 = addx iv D x1 y1 (addx iv D x2 y2 x3 y3) (addy iv D x2 y2 x3 y3) := by
  have h12 := closed h hD h1 h2
  have h23 := closed h hD h2 h3
  have key := assoc_x_core x1 y1 x2 y2 x3 y3 D h1 h2 h3
  have a1 := addx_eq h hD h1 h2
  have a2 := addy_eq h hD h1 h2
  have a3 := addx_eq h hD h2 h3
  have a4 := addy_eq h hD h2 h3
  have d1 := den_pos h hD h1 h2
  have d2 := den_neg h hD h1 h2
  have d3 := den_pos h hD h2 h3
  have d4 := den_neg h hD h2 h3
  have a5 := addx_eq h hD h12 h3
  have a6 := addx_eq h hD h1 h23
  have d5 := den_pos h hD h12 h3
  have d6 := den_pos h hD h1 h23
  generalize addx iv D (addx iv D x1 y1 x2 y2) (addy iv D x1 y1 x2 y2) x3 y3 = L at *
  generalize addx iv D x1 y1 (addx iv D x2 y2 x3 y3) (addy iv D x2 y2 x3 y3) = R at *
  generalize addx iv D x1 y1 x2 y2 = X12 at *
  generalize addy iv D x1 y1 x2 y2 = Y12 at *
  generalize addx iv D x2 y2 x3 y3 = X23 at *
  generalize addy iv D x2 y2 x3 y3 = Y23 at *
  clear h1 h2 h3 h12 h23
  have k : ((1 + D * (x1 * x2 * y1 * y2)) * (1 - D * (x1 * x2 * y1 * y2)) * ((1 + D * (x2 * x3 * y2 * y3)) * (1 - D * (x2 * x3 * y2 * y3)))) * ((X12 * y3 + Y12 * x3) * (1 + D * (x1 * X23 * y1 * Y23)))
      = ((1 + D * (x1 * x2 * y1 * y2)) * (1 - D * (x1 * x2 * y1 * y2)) * ((1 + D * (x2 * x3 * y2 * y3)) * (1 - D * (x2 * x3 * y2 * y3)))) * ((x1 * Y23 + y1 * X23) * (1 + D * (X12 * x3 * Y12 * y3))) := by
    have b1 : x1 * y2 + y1 * x2 = X12 * (1 + D * (x1 * x2 * y1 * y2)) := a1.symm
    have b2 : y1 * y2 - x1 * x2 = Y12 * (1 - D * (x1 * x2 * y1 * y2)) := a2.symm
    have b3 : x2 * y3 + y2 * x3 = X23 * (1 + D * (x2 * x3 * y2 * y3)) := a3.symm
    have b4 : y2 * y3 - x2 * x3 = Y23 * (1 - D * (x2 * x3 * y2 * y3)) := a4.symm
    have c1 : x2 * y1 + y2 * x1 = X12 * (1 + D * (x1 * x2 * y1 * y2)) := by rw [← b1]; grind
    have c2 : y2 * y1 - x2 * x1 = Y12 * (1 - D * (x1 * x2 * y1 * y2)) := by rw [← b2]; grind
    have c3 : x3 * y2 + y3 * x2 = X23 * (1 + D * (x2 * x3 * y2 * y3)) := by rw [← b3]; grind
    have c4 : y3 * y2 - x3 * x2 = Y23 * (1 - D * (x2 * x3 * y2 * y3)) := by rw [← b4]; grind
    have e1 : x3 * x2 * y3 * y2 = x2 * x3 * y2 * y3 := by grind
    have e2 : x2 * x1 * y2 * y1 = x1 * x2 * y1 * y2 := by grind
    have e3 : 1 - D * D * (x2 * x3 * y2 * y3) * (x2 * x3 * y2 * y3) = (1 + D * (x2 * x3 * y2 * y3)) * (1 - D * (x2 * x3 * y2 * y3)) := by grind
    have e4 : 1 - D * D * (x1 * x2 * y1 * y2) * (x1 * x2 * y1 * y2) = (1 + D * (x1 * x2 * y1 * y2)) * (1 - D * (x1 * x2 * y1 * y2)) := by grind
    rw [e1, e2, e3, e4, b1, b2, b3, b4, c1, c2, c3, c4] at key
    clear b1 b2 b3 b4 c1 c2 c3 c4 e1 e2 e3 e4 a1 a2 a3 a4 a5 a6 d1 d2 d3 d4 d5 d6
    generalize 1 + D * (x1 * x2 * y1 * y2) = s at *
    generalize 1 - D * (x1 * x2 * y1 * y2) = t at *
    generalize 1 + D * (x2 * x3 * y2 * y3) = u at *
    generalize 1 - D * (x2 * x3 * y2 * y3) = v at *
    grind
  have k2 := h.cancel (h.ne_mul (h.ne_mul d1 d2) (h.ne_mul d3 d4)) k
  clear k key a1 a2 a3 a4 d1 d2 d3 d4
  refine h.cancel (h.ne_mul d5 d6) ?_
  generalize 1 + D * (x1 * X23 * y1 * Y23) = s at *
  generalize 1 + D * (X12 * x3 * Y12 * y3) = t at *
  grind

theorem assoc_y (h : Fld n iv) {D : Fin n} (hD : NonSq D) {x1 y1 x2 y2 x3 y3 : Fin n} (h1 : On D x1 y1) (h2 : On D x2 y2) (h3 : On D x3 y3) :
    addy iv D (addx iv D x1 y1 x2 y2) (addy iv D x1 y1 x2 y2) x3 y3 = addy iv D x1 y1 (addx iv D x2 y2 x3 y3) (addy iv D x2 y2 x3 y3) := by
  have h12 := closed h hD h1 h2
  have h23 := closed h hD h2 h3
  have key := assoc_y_core x1 y1 x2 y2 x3 y3 D h1 h2 h3
  have a1 := addx_eq h hD h1 h2
  have a2 := addy_eq h hD h1 h2
  have a3 := addx_eq h hD h2 h3
  have a4 := addy_eq h hD h2 h3
  have d1 := den_pos h hD h1 h2
  have d2 := den_neg h hD h1 h2
  have d3 := den_pos h hD h2 h3
  have d4 := den_neg h hD h2 h3
  have a5 := addy_eq h hD h12 h3
  have a6 := addy_eq h hD h1 h23
  have d5 := den_neg h hD h12 h3
  have d6 := den_neg h hD h1 h23
  generalize addy iv D (addx iv D x1 y1 x2 y2) (addy iv D x1 y1 x2 y2) x3 y3 = L at *
  generalize addy iv D x1 y1 (addx iv D x2 y2 x3 y3) (addy iv D x2 y2 x3 y3) = R at *
  generalize addx iv D x1 y1 x2 y2 = X12 at *
  generalize addy iv D x1 y1 x2 y2 = Y12 at *
  generalize addx iv D x2 y2 x3 y3 = X23 at *
  generalize addy iv D x2 y2 x3 y3 = Y23 at *
  clear h1 h2 h3 h12 h23
  have k : ((1 + D * (x1 * x2 * y1 * y2)) * (1 - D * (x1 * x2 * y1 * y2)) * ((1 + D * (x2 * x3 * y2 * y3)) * (1 - D * (x2 * x3 * y2 * y3)))) * ((Y12 * y3 - X12 * x3) * (1 - D * (x1 * X23 * y1 * Y23)))
      = ((1 + D * (x1 * x2 * y1 * y2)) * (1 - D * (x1 * x2 * y1 * y2)) * ((1 + D * (x2 * x3 * y2 * y3)) * (1 - D * (x2 * x3 * y2 * y3)))) * ((y1 * Y23 - x1 * X23) * (1 - D * (X12 * x3 * Y12 * y3))) := by
    have b1 : x1 * y2 + y1 * x2 = X12 * (1 + D * (x1 * x2 * y1 * y2)) := a1.symm
    have b2 : y1 * y2 - x1 * x2 = Y12 * (1 - D * (x1 * x2 * y1 * y2)) := a2.symm
    have b3 : x2 * y3 + y2 * x3 = X23 * (1 + D * (x2 * x3 * y2 * y3)) := a3.symm
    have b4 : y2 * y3 - x2 * x3 = Y23 * (1 - D * (x2 * x3 * y2 * y3)) := a4.symm
    have c1 : x2 * y1 + y2 * x1 = X12 * (1 + D * (x1 * x2 * y1 * y2)) := by rw [← b1]; grind
    have c2 : y2 * y1 - x2 * x1 = Y12 * (1 - D * (x1 * x2 * y1 * y2)) := by rw [← b2]; grind
    have c3 : x3 * y2 + y3 * x2 = X23 * (1 + D * (x2 * x3 * y2 * y3)) := by rw [← b3]; grind
    have c4 : y3 * y2 - x3 * x2 = Y23 * (1 - D * (x2 * x3 * y2 * y3)) := by rw [← b4]; grind
    have e1 : x3 * x2 * y3 * y2 = x2 * x3 * y2 * y3 := by grind
    have e2 : x2 * x1 * y2 * y1 = x1 * x2 * y1 * y2 := by grind
    have e3 : 1 - D * D * (x2 * x3 * y2 * y3) * (x2 * x3 * y2 * y3) = (1 + D * (x2 * x3 * y2 * y3)) * (1 - D * (x2 * x3 * y2 * y3)) := by grind
    have e4 : 1 - D * D * (x1 * x2 * y1 * y2) * (x1 * x2 * y1 * y2) = (1 + D * (x1 * x2 * y1 * y2)) * (1 - D * (x1 * x2 * y1 * y2)) := by grind
    rw [e1, e2, e3, e4, b1, b2, b3, b4, c1, c2, c3, c4] at key
    clear b1 b2 b3 b4 c1 c2 c3 c4 e1 e2 e3 e4 a1 a2 a3 a4 a5 a6 d1 d2 d3 d4 d5 d6
    generalize 1 + D * (x1 * x2 * y1 * y2) = s at *
    generalize 1 - D * (x1 * x2 * y1 * y2) = t at *
    generalize 1 + D * (x2 * x3 * y2 * y3) = u at *
    generalize 1 - D * (x2 * x3 * y2 * y3) = v at *
    grind
  have k2 := h.cancel (h.ne_mul (h.ne_mul d1 d2) (h.ne_mul d3 d4)) k
  clear k key a1 a2 a3 a4 d1 d2 d3 d4
  refine h.cancel (h.ne_mul d5 d6) ?_
  generalize 1 - D * (x1 * X23 * y1 * Y23) = s at *
  generalize 1 - D * (X12 * x3 * Y12 * y3) = t at *
  grind
end
end Mth
namespace Mth
section
variable {n : Nat} [NeZero n]

/-- The ratio x : z is e (1 + y) : (1 - y). -/
def Rep (e y x z : Fin n) : Prop := ∃ k : Fin n, k ≠ 0 ∧ x = k * e * (1 + y) ∧ z = k * (1 - y)

theorem Rep.mk {iv : Fin n → Fin n} (h : Fld n iv) {e y x z : Fin n} (he : e * e = 1) (h1 : x * (1 - y) = e * z * (1 + y)) (h2 : x ≠ 0 ∨ z ≠ 0) : Rep e y x z := by
  have i2 := h.inv 2 h.two
  have hx : x = (e * x + z) * iv 2 * e * (1 + y) := by grind
  have hz : z = (e * x + z) * iv 2 * (1 - y) := by grind
  refine ⟨(e * x + z) * iv 2, ?_, hx, hz⟩
  intro h0
  rw [h0] at hx hz
  rcases h2 with h2 | h2
  · exact h2 (by rw [hx]; grind)
  · exact h2 (by rw [hz]; grind)

/-- Doubling, by the ratio alone. -/
theorem dbl_rep {iv : Fin n → Fin n} (h : Fld n iv) {e c D : Fin n} (hD : NonSq D) (he : e * e = 1) (hc : D * (2 * c + 1 + e) = 2 * c + 1 - e) (c0 : c ≠ 0) (c1 : c + 1 ≠ 0)
    {xq yq x z : Fin n} (hq : On D xq yq) (hr : Rep e yq x z) :
    Rep e (addy iv D xq yq xq yq) ((x + z) * (x + z) * ((x - z) * (x - z)))
      (((x + z) * (x + z) - (x - z) * (x - z)) * ((x + z) * (x + z) + c * ((x + z) * (x + z) - (x - z) * (x - z)))) := by
  obtain ⟨k, hk, hx, hz⟩ := hr
  have a := addy_eq h hD hq hq
  have dn := den_neg h hD hq hq
  have dp := den_pos h hD hq hq
  generalize addy iv D xq yq xq yq = y5 at *
  unfold On at hq
  have i2 := h.inv 2 h.two
  have rel : ((x + z) * (x + z) * ((x - z) * (x - z))) * (1 - y5) = e * (((x + z) * (x + z) - (x - z) * (x - z)) * ((x + z) * (x + z) + c * ((x + z) * (x + z) - (x - z) * (x - z)))) * (1 + y5) := by
    -- the denominator 1 - D x^2 y^2 is cleared
    refine h.cancel dn ?_
    have hm : (1 - D * (xq * xq * yq * yq)) * (1 - y5) = 2 * (1 - yq * yq) := by grind
    have hp : (1 - D * (xq * xq * yq * yq)) * (1 + y5) = 2 * (1 - xq * xq) := by grind
    have hxz : (x + z) * (x + z) = k * k * (2 + 2 * e + (2 - 2 * e) * (yq * yq)) := by subst hx hz; grind
    have hxz' : (x - z) * (x - z) = k * k * (2 - 2 * e + (2 + 2 * e) * (yq * yq)) := by subst hx hz; grind
    have g1 : (1 - D * (xq * xq * yq * yq)) * (((x + z) * (x + z) * ((x - z) * (x - z))) * (1 - y5)) = ((x + z) * (x + z) * ((x - z) * (x - z))) * (2 * (1 - yq * yq)) := by rw [← hm]; grind
    have g2 : (1 - D * (xq * xq * yq * yq)) * (e * (((x + z) * (x + z) - (x - z) * (x - z)) * ((x + z) * (x + z) + c * ((x + z) * (x + z) - (x - z) * (x - z)))) * (1 + y5))
      = e * (((x + z) * (x + z) - (x - z) * (x - z)) * ((x + z) * (x + z) + c * ((x + z) * (x + z) - (x - z) * (x - z)))) * (2 * (1 - xq * xq)) := by rw [← hp]; grind
    rw [g1, g2, hxz, hxz']
    clear g1 g2 hxz hxz' hm hp a dn dp
    have hcc : (1 - D) * (2 * c + 1 + e) = 2 * e := by grind
    have m0 : 2 * c + 1 + e ≠ 0 := by
      intro h0
      have : (2 : Fin n) * e = 0 := by grind
      rcases h.dom this with h1 | h1
      · exact h.two h1
      · exact h.two (by grind)
    refine h.cancel m0 ?_
    have q2 : (1 - xq * xq) * (1 - D * (yq * yq)) = (1 - D) * (yq * yq) := by grind
    have q3 : (1 - D * (yq * yq)) ≠ 0 := by
      intro h0
      have : D * (yq * yq) = 1 := by grind
      by_cases hy : yq = 0
      · subst hy; have h3 : (0 : Fin n) = 1 := by grind
        exact h.two (by grind)
      · have := h.inv yq hy
        exact hD (iv yq) (by grind)
    refine h.cancel q3 ?_
    have t1 : (2 * c + 1 + e) * (1 - D * (yq * yq)) = (2 * c + 1 + e) - (2 * c + 1 - e) * (yq * yq) := by grind
    have w1 : ∀ X : Fin n, (1 - D * (yq * yq)) * ((2 * c + 1 + e) * X) = ((2 * c + 1 + e) - (2 * c + 1 - e) * (yq * yq)) * X := by intro X; rw [← t1]; grind
    have w2 : ∀ X : Fin n, (1 - D * (yq * yq)) * ((2 * c + 1 + e) * (X * (2 * (1 - xq * xq)))) = X * (2 * (2 * e * (yq * yq))) := by
      intro X
      rw [← hcc]
      have : (1 - D * (yq * yq)) * ((2 * c + 1 + e) * (X * (2 * (1 - xq * xq)))) = (2 * c + 1 + e) * X * 2 * ((1 - xq * xq) * (1 - D * (yq * yq))) := by grind
      rw [this, q2]; grind
    rw [w1, w2]
    generalize yq * yq = s at *
    clear w1 w2 t1 q2 q3 hcc m0 hx hz hq hc i2
    grind
  refine Rep.mk h he rel ?_
  by_cases h1 : (x + z) * (x + z) * ((x - z) * (x - z)) = 0
  · right
    have xz : x ≠ 0 ∨ z ≠ 0 := by
      by_cases z0 : z = 0
      · left; intro x0
        have e1 : k * (1 - yq) = 0 := by rw [← hz]; exact z0
        have e2 : k * (e * (1 + yq)) = 0 := by rw [← x0, hx]; grind
        rcases h.dom e1 with r | r
        · exact hk r
        · rcases h.dom e2 with r2 | r2
          · exact hk r2
          · exact h.two (by grind)
      · exact Or.inr z0
    have xz' : x + z = 0 ∨ x - z = 0 := by
      rcases h.dom h1 with r | r
      · rcases h.dom r with r | r <;> exact Or.inl r
      · rcases h.dom r with r | r <;> exact Or.inr r
    clear rel hx hz h1
    rcases xz' with r | r
    · have zx : z = - x := by grind
      subst zx
      have x0 : x ≠ 0 := by
        rcases xz with r | r
        · exact r
        · intro h0; exact r (by grind)
      have : ((x + -x) * (x + -x) - (x - -x) * (x - -x)) * ((x + -x) * (x + -x) + c * ((x + -x) * (x + -x) - (x - -x) * (x - -x))) = 2 * 2 * (2 * 2) * (c * (x * x * (x * x))) := by grind
      rw [this]
      exact h.ne_mul (h.ne_mul (h.ne_mul h.two h.two) (h.ne_mul h.two h.two)) (h.ne_mul c0 (h.ne_mul (h.ne_mul x0 x0) (h.ne_mul x0 x0)))
    · have zx : z = x := by grind
      subst zx
      have x0 : z ≠ 0 := by
        rcases xz with r | r <;> exact r
      have : ((z + z) * (z + z) - (z - z) * (z - z)) * ((z + z) * (z + z) + c * ((z + z) * (z + z) - (z - z) * (z - z))) = 2 * 2 * (2 * 2) * ((c + 1) * (z * z * (z * z))) := by grind
      rw [this]
      exact h.ne_mul (h.ne_mul (h.ne_mul h.two h.two) (h.ne_mul h.two h.two)) (h.ne_mul c1 (h.ne_mul (h.ne_mul x0 x0) (h.ne_mul x0 x0)))
  · exact Or.inl h1


theorem neg_on {D x y : Fin n} (h : On D x y) : On D (-x) y := by unfold On at *; grind

theorem iv_one {iv : Fin n → Fin n} (h : Fld n iv) : iv 1 = 1 := by
  have h1 : (1 : Fin n) ≠ 0 := by intro h0; exact h.two (by grind)
  have := h.inv 1 h1
  grind

theorem on_id (D : Fin n) : On D 0 1 := by unfold On; grind

theorem add_id {iv : Fin n → Fin n} (h : Fld n iv) (D x y : Fin n) : addx iv D x y 0 1 = x ∧ addy iv D x y 0 1 = y := by
  have := iv_one h
  constructor
  · unfold addx
    have e : 1 + D * (x * 0 * y * 1) = 1 := by grind
    rw [e]; grind
  · unfold addy
    have e : 1 - D * (x * 0 * y * 1) = 1 := by grind
    rw [e]; grind

theorem add_neg {iv : Fin n → Fin n} (h : Fld n iv) {D x y : Fin n} (hD : NonSq D) (hq : On D x y) : addx iv D x y (-x) y = 0 ∧ addy iv D x y (-x) y = 1 := by
  constructor
  · unfold addx; grind
  · have := addy_eq h hD hq (neg_on hq)
    have hd := den_neg h hD hq (neg_on hq)
    generalize addy iv D x y (-x) y = t at *
    unfold On at hq
    refine h.cancel hd ?_
    grind

/-- The difference of a sum and one of its parts. -/
theorem sub_back {iv : Fin n → Fin n} (h : Fld n iv) {D xq yq xp yp : Fin n} (hD : NonSq D) (hq : On D xq yq) (hp : On D xp yp) :
    addy iv D (addx iv D xq yq xp yp) (addy iv D xq yq xp yp) (-xq) yq = yp := by
  rw [addx_comm D xq yq xp yp, addy_comm D xq yq xp yp, assoc_y h hD hp hq (neg_on hq), (add_neg h hD hq).1, (add_neg h hD hq).2, (add_id h D xp yp).2]

theorem diff_core {xq yq xs ys D y5 yp : Fin n} (hq : xq * xq + yq * yq = 1 + D * (xq * xq) * (yq * yq)) (hs : xs * xs + ys * ys = 1 + D * (xs * xs) * (ys * ys))
    (h5 : y5 * (1 - D * (xq * xs * yq * ys)) = yq * ys - xq * xs) (hp : yp * (1 + D * (xq * xs * yq * ys)) = yq * ys + xq * xs) :
    (1 - D * (xq * xs * yq * ys)) * (1 + D * (xq * xs * yq * ys)) * ((1 + y5) * (1 + yp) * ((yq - ys) * (yq - ys))) = (1 - D * (xq * xs * yq * ys)) * (1 + D * (xq * xs * yq * ys)) * ((1 - y5) * (1 - yp) * ((yq + ys) * (yq + ys))) := by
  have e1 : (1 - D * (xq * xs * yq * ys)) * (1 + y5) = 1 - D * (xq * xs * yq * ys) + (yq * ys - xq * xs) := by rw [← h5]; grind
  have e2 : (1 - D * (xq * xs * yq * ys)) * (1 - y5) = 1 - D * (xq * xs * yq * ys) - (yq * ys - xq * xs) := by rw [← h5]; grind
  have e3 : (1 + D * (xq * xs * yq * ys)) * (1 + yp) = 1 + D * (xq * xs * yq * ys) + (yq * ys + xq * xs) := by rw [← hp]; grind
  have e4 : (1 + D * (xq * xs * yq * ys)) * (1 - yp) = 1 + D * (xq * xs * yq * ys) - (yq * ys + xq * xs) := by rw [← hp]; grind
  have f1 : (1 - D * (xq * xs * yq * ys)) * (1 + D * (xq * xs * yq * ys)) * ((1 + y5) * (1 + yp) * ((yq - ys) * (yq - ys))) = ((1 - D * (xq * xs * yq * ys)) * (1 + y5)) * ((1 + D * (xq * xs * yq * ys)) * (1 + yp)) * ((yq - ys) * (yq - ys)) := by grind
  have f2 : (1 - D * (xq * xs * yq * ys)) * (1 + D * (xq * xs * yq * ys)) * ((1 - y5) * (1 - yp) * ((yq + ys) * (yq + ys))) = ((1 - D * (xq * xs * yq * ys)) * (1 - y5)) * ((1 + D * (xq * xs * yq * ys)) * (1 - yp)) * ((yq + ys) * (yq + ys)) := by grind
  rw [f1, f2, e1, e2, e3, e4]
  clear e1 e2 e3 e4 f1 f2 h5 hp
  grind


theorem cross_sum {e k l yq ys x2 z2 x3 z3 : Fin n} (he : e * e = 1) (hx2 : x2 = k * e * (1 + yq)) (hz2 : z2 = k * (1 - yq)) (hx3 : x3 = l * e * (1 + ys)) (hz3 : z3 = l * (1 - ys)) :
    (x3 - z3) * (x2 + z2) + (x3 + z3) * (x2 - z2) = 4 * (k * l) * (yq + ys) := by
  have a : (x3 - z3) * (x2 + z2) + (x3 + z3) * (x2 - z2) = 2 * (x3 * x2) - 2 * (z3 * z2) := by grind
  have b : x3 * x2 = l * k * ((1 + ys) * (1 + yq)) := by
    have : x3 * x2 = (e * e) * (l * k * ((1 + ys) * (1 + yq))) := by rw [hx3, hx2]; grind
    rw [this, he]; grind
  have c : z3 * z2 = l * k * ((1 - ys) * (1 - yq)) := by rw [hz3, hz2]; grind
  rw [a, b, c]; clear a b c hx2 hz2 hx3 hz3 he; grind

theorem cross_dif {e k l yq ys x2 z2 x3 z3 : Fin n} (hx2 : x2 = k * e * (1 + yq)) (hz2 : z2 = k * (1 - yq)) (hx3 : x3 = l * e * (1 + ys)) (hz3 : z3 = l * (1 - ys)) :
    (x3 - z3) * (x2 + z2) - (x3 + z3) * (x2 - z2) = 4 * (k * l) * e * (ys - yq) := by
  have a : (x3 - z3) * (x2 + z2) - (x3 + z3) * (x2 - z2) = 2 * (x3 * z2) - 2 * (z3 * x2) := by grind
  have b : x3 * z2 = l * k * e * ((1 + ys) * (1 - yq)) := by rw [hx3, hz2]; grind
  have c : z3 * x2 = l * k * e * ((1 - ys) * (1 + yq)) := by rw [hz3, hx2]; grind
  rw [a, b, c]; clear a b c hx2 hz2 hx3 hz3; grind

theorem diff_fin {e u yp yq ys y5 m : Fin n} (he : e * e = 1) (hu : u * (1 - yp) = e * (1 + yp)) (rel : (1 + y5) * (1 + yp) * ((yq - ys) * (yq - ys)) = (1 - y5) * (1 - yp) * ((yq + ys) * (yq + ys))) :
    (1 - yp) * (m * (yq + ys) * (m * (yq + ys)) * (1 - y5)) = (1 - yp) * (e * (u * (m * e * (ys - yq) * (m * e * (ys - yq)))) * (1 + y5)) := by
  have a : (1 - yp) * (m * (yq + ys) * (m * (yq + ys)) * (1 - y5)) = m * m * ((1 - y5) * (1 - yp) * ((yq + ys) * (yq + ys))) := by grind
  have b : (1 - yp) * (e * (u * (m * e * (ys - yq) * (m * e * (ys - yq)))) * (1 + y5)) = m * m * ((e * e) * (e * (u * (1 - yp))) * (1 + y5) * ((yq - ys) * (yq - ys))) := by grind
  rw [a, b, ← rel, hu, he]
  have c : e * (e * (1 + yp)) = 1 + yp := by rw [← Fin.mul_assoc, he]; grind
  rw [c]; clear a b c rel hu he; grind

/-- The sum of two points whose difference is known, by the ratios alone. -/
theorem diff_rep {iv : Fin n → Fin n} (h : Fld n iv) {e D : Fin n} (hD : NonSq D) (he : e * e = 1) {xq yq xp yp u x2 z2 x3 z3 : Fin n} (hq : On D xq yq) (hp : On D xp yp)
    (hu : u * (1 - yp) = e * (1 + yp)) (hyp : yp ≠ 1) (hu0 : u ≠ 0) (r2 : Rep e yq x2 z2) (r3 : Rep e (addy iv D xq yq xp yp) x3 z3) :
    Rep e (addy iv D xq yq (addx iv D xq yq xp yp) (addy iv D xq yq xp yp))
      (((x3 - z3) * (x2 + z2) + (x3 + z3) * (x2 - z2)) * ((x3 - z3) * (x2 + z2) + (x3 + z3) * (x2 - z2)))
      (u * (((x3 - z3) * (x2 + z2) - (x3 + z3) * (x2 - z2)) * ((x3 - z3) * (x2 + z2) - (x3 + z3) * (x2 - z2)))) := by
  have hs := closed h hD hq hp
  have hb := sub_back h hD hq hp
  have hbe := addy_eq h hD hs (neg_on hq)
  have h5 := addy_eq h hD hq hs
  have d1 := den_neg h hD hq hs
  have d2 := den_pos h hD hq hs
  rw [hb] at hbe
  clear hb
  generalize addy iv D xq yq (addx iv D xq yq xp yp) (addy iv D xq yq xp yp) = y5 at *
  generalize addx iv D xq yq xp yp = xs at *
  generalize addy iv D xq yq xp yp = ys at *
  obtain ⟨k, hk, hx2, hz2⟩ := r2
  obtain ⟨l, hl, hx3, hz3⟩ := r3
  have hP : yp * (1 + D * (xq * xs * yq * ys)) = yq * ys + xq * xs := by
    clear hx2 hz2 hx3 hz3 h5 d1 d2 hu hs
    have e1 : 1 - D * (xs * -xq * ys * yq) = 1 + D * (xq * xs * yq * ys) := by clear hbe; grind
    rw [e1] at hbe; rw [hbe]; clear hbe e1; grind
  have rel := h.cancel (h.ne_mul d1 d2) (diff_core hq hs h5 hP)
  have E1 : (x3 - z3) * (x2 + z2) + (x3 + z3) * (x2 - z2) = 4 * (k * l) * (yq + ys) := cross_sum he hx2 hz2 hx3 hz3
  have E2 : (x3 - z3) * (x2 + z2) - (x3 + z3) * (x2 - z2) = 4 * (k * l) * e * (ys - yq) := cross_dif hx2 hz2 hx3 hz3
  rw [E1, E2]
  clear hx2 hz2 hx3 hz3 E1 E2 h5 hbe d1 d2
  have yp1 : 1 - yp ≠ 0 := by clear rel hP hq hs hp hu; intro h0; exact hyp (by grind)
  have four : (4 : Fin n) ≠ 0 := by
    clear rel hP hq hs hp hu
    intro h0
    have : (2 : Fin n) * 2 = 0 := by grind
    rcases h.dom this with r | r <;> exact h.two r
  have kl := h.ne_mul four (h.ne_mul hk hl)
  refine Rep.mk h he ?_ ?_
  · refine h.cancel yp1 ?_
    exact diff_fin he hu rel
  · by_cases hsum : yq + ys = 0
    · right
      clear rel
      have hdif : ys - yq ≠ 0 := by
        intro h0
        have q0 : yq = 0 := by
          have : 2 * yq = 0 := by grind
          rcases h.dom this with r | r
          · exact absurd r h.two
          · exact r
        have s0 : ys = 0 := by grind
        subst q0 s0
        unfold On at hq hs
        have a1 : xq * xq = 1 := by grind
        have a2 : xs * xs = 1 := by grind
        have a3 : yp = xq * xs := by grind
        have a4 : (yp - 1) * (yp + 1) = 0 := by grind
        rcases h.dom a4 with r | r
        · exact hyp (by grind)
        · have : u * 2 = 0 := by grind
          rcases h.dom this with r' | r'
          · exact hu0 r'
          · exact h.two r'
      have e0 : e ≠ 0 := by clear hP hq hs hp hu; intro h0; subst h0; exact h.two (by grind)
      have := h.ne_mul (h.ne_mul kl e0) hdif
      exact h.ne_mul hu0 (h.ne_mul this this)
    · left
      have := h.ne_mul kl hsum
      exact h.ne_mul this this

end
end Mth

namespace Mth
section
variable {n : Nat} [NeZero n]
variable (iv : Fin n → Fin n)

/-- The multiples of a point. -/
def mp (D x y : Fin n) : Nat → Fin n × Fin n
  | 0 => (0, 1)
  | k + 1 => (addx iv D (mp D x y k).1 (mp D x y k).2 x y, addy iv D (mp D x y k).1 (mp D x y k).2 x y)

variable {iv}
theorem on_mp (h : Fld n iv) {D x y : Fin n} (hD : NonSq D) (hp : On D x y) : ∀ k, On D (mp iv D x y k).1 (mp iv D x y k).2
  | 0 => on_id D
  | k + 1 => closed h hD (on_mp h hD hp k) hp

theorem id_add (h : Fld n iv) (D x y : Fin n) : addx iv D 0 1 x y = x ∧ addy iv D 0 1 x y = y := by
  rw [addx_comm, addy_comm]; exact add_id h D x y

theorem mp_one (h : Fld n iv) (D x y : Fin n) : mp iv D x y 1 = (x, y) := by
  unfold mp; unfold mp; rw [(id_add h D x y).1, (id_add h D x y).2]

theorem mp_add (h : Fld n iv) {D x y : Fin n} (hD : NonSq D) (hp : On D x y) (a : Nat) : ∀ b, mp iv D x y (a + b) =
    (addx iv D (mp iv D x y a).1 (mp iv D x y a).2 (mp iv D x y b).1 (mp iv D x y b).2, addy iv D (mp iv D x y a).1 (mp iv D x y a).2 (mp iv D x y b).1 (mp iv D x y b).2)
  | 0 => by show mp iv D x y a = _; rw [show mp iv D x y 0 = (0, 1) from rfl, (add_id h D _ _).1, (add_id h D _ _).2]
  | b + 1 => by
    have ih := mp_add h hD hp a b
    show (addx iv D (mp iv D x y (a + b)).1 (mp iv D x y (a + b)).2 x y, addy iv D (mp iv D x y (a + b)).1 (mp iv D x y (a + b)).2 x y) = _
    rw [ih]
    have ha := on_mp h hD hp a
    have hb := on_mp h hD hp b
    rw [assoc_x h hD ha hb hp, assoc_y h hD ha hb hp]
    rfl

theorem mp_mul (h : Fld n iv) {D x y : Fin n} (hD : NonSq D) (hp : On D x y) (a : Nat) : ∀ b, mp iv D (mp iv D x y a).1 (mp iv D x y a).2 b = mp iv D x y (a * b)
  | 0 => rfl
  | b + 1 => by
    have ih := mp_mul h hD hp a b
    rw [Nat.mul_succ, mp_add h hD hp (a * b) a, ← ih]; rfl

/-- Multiples of the identity. -/
theorem mp_id (h : Fld n iv) (D : Fin n) : ∀ k, mp iv D 0 1 k = (0, 1)
  | 0 => rfl
  | k + 1 => by
    show (addx iv D (mp iv D 0 1 k).1 (mp iv D 0 1 k).2 0 1, addy iv D (mp iv D 0 1 k).1 (mp iv D 0 1 k).2 0 1) = _
    rw [mp_id h D k, (id_add h D 0 1).1, (id_add h D 0 1).2]

/-- A point with y = 1 is the identity. -/
theorem y_one (h : Fld n iv) {D x : Fin n} (hD : NonSq D) (hp : On D x 1) : x = 0 := by
  unfold On at hp
  have e : (x * x) * (1 - D) = 0 := by grind
  rcases h.dom e with r | r
  · rcases h.dom r with r | r <;> exact r
  · exact absurd (show (1 : Fin n) * 1 = D by grind) (hD 1)

theorem y_neg (h : Fld n iv) {D x : Fin n} (hD : NonSq D) (hp : On D x (-1)) : x = 0 := by
  unfold On at hp
  have e : (x * x) * (1 - D) = 0 := by grind
  rcases h.dom e with r | r
  · rcases h.dom r with r | r <;> exact r
  · exact absurd (show (1 : Fin n) * 1 = D by grind) (hD 1)

/-- One ladder's round. -/
def fstep (c u x2 z2 x3 z3 : Fin n) : Fin n × Fin n × Fin n × Fin n :=
  ((x2 + z2) * (x2 + z2) * ((x2 - z2) * (x2 - z2)),
   ((x2 + z2) * (x2 + z2) - (x2 - z2) * (x2 - z2)) * ((x2 + z2) * (x2 + z2) + c * ((x2 + z2) * (x2 + z2) - (x2 - z2) * (x2 - z2))),
   ((x3 - z3) * (x2 + z2) + (x3 + z3) * (x2 - z2)) * ((x3 - z3) * (x2 + z2) + (x3 + z3) * (x2 - z2)),
   u * (((x3 - z3) * (x2 + z2) - (x3 + z3) * (x2 - z2)) * ((x3 - z3) * (x2 + z2) - (x3 + z3) * (x2 - z2))))

def fsel (c : Bool) (a b : Fin n) : Fin n := if c then b else a

def fpst (c u : Fin n) (k : Nat → Bool) : Nat → (Fin n × Fin n × Fin n × Fin n) × Bool
  | 0 => ((1, 0, u, 1), false)
  | j + 1 =>
    let s := fpst c u k j
    let b := k (254 - j)
    let d := s.2 != b
    (fstep c u (fsel d s.1.1 s.1.2.2.1) (fsel d s.1.2.1 s.1.2.2.2) (fsel d s.1.2.2.1 s.1.1) (fsel d s.1.2.2.2 s.1.2.1), b)

/-- The number of the highest j bits. -/
def mk (k : Nat → Bool) : Nat → Nat
  | 0 => 0
  | j + 1 => 2 * mk k j + (k (254 - j)).toNat

theorem mk_lt (k : Nat → Bool) : ∀ j, mk k j < 2 ^ j
  | 0 => Nat.one_pos
  | j + 1 => by
    have := mk_lt k j
    have h : (k (254 - j)).toNat ≤ 1 := Bool.toNat_le _
    show 2 * mk k j + _ < _
    rw [Nat.pow_succ]; omega

/-- What the ladder keeps: the two ratios are those of m and m + 1 times the point. -/
structure Kept (iv : Fin n → Fin n) (D x y e : Fin n) (m : Nat) (x2 z2 x3 z3 : Fin n) : Prop where
  a : Rep e (mp iv D x y m).2 x2 z2
  b : Rep e (mp iv D x y (m + 1)).2 x3 z3

variable {e c D : Fin n}
theorem kept_zero (h : Fld n iv) (hD : NonSq D) (he : e * e = 1) (hc : D * (2 * c + 1 + e) = 2 * c + 1 - e) (c0 : c ≠ 0) (c1 : c + 1 ≠ 0)
    {x y u : Fin n} (hp : On D x y) (hu : u * (1 - y) = e * (1 + y)) (hy : y ≠ 1) (hu0 : u ≠ 0) {m : Nat} {x2 z2 x3 z3 : Fin n} (hk : Kept iv D x y e m x2 z2 x3 z3) :
    Kept iv D x y e (2 * m) (fstep c u x2 z2 x3 z3).1 (fstep c u x2 z2 x3 z3).2.1 (fstep c u x2 z2 x3 z3).2.2.1 (fstep c u x2 z2 x3 z3).2.2.2 := by
  have hq := on_mp h hD hp m
  refine ⟨?_, ?_⟩
  · have := dbl_rep h hD he hc c0 c1 hq hk.a
    rw [show 2 * m = m + m by omega, mp_add h hD hp m m]; exact this
  · have := diff_rep h hD he hq hp hu hy hu0 hk.a hk.b
    rw [show 2 * m + 1 = m + (m + 1) by omega, mp_add h hD hp m (m + 1)]; exact this

theorem kept_one (h : Fld n iv) (hD : NonSq D) (he : e * e = 1) (hc : D * (2 * c + 1 + e) = 2 * c + 1 - e) (c0 : c ≠ 0) (c1 : c + 1 ≠ 0)
    {x y u : Fin n} (hp : On D x y) (hu : u * (1 - y) = e * (1 + y)) (hy : y ≠ 1) (hu0 : u ≠ 0) {m : Nat} {x2 z2 x3 z3 : Fin n} (hk : Kept iv D x y e m x3 z3 x2 z2) :
    Kept iv D x y e (2 * m + 1) (fstep c u x2 z2 x3 z3).2.2.1 (fstep c u x2 z2 x3 z3).2.2.2 (fstep c u x2 z2 x3 z3).1 (fstep c u x2 z2 x3 z3).2.1 := by
  have hq := on_mp h hD hp m
  have hq1 := on_mp h hD hp (m + 1)
  refine ⟨?_, ?_⟩
  · have := diff_rep h hD he hq hp hu hy hu0 hk.a hk.b
    rw [show 2 * m + 1 = m + (m + 1) by omega, mp_add h hD hp m (m + 1)]
    have e1 : (fstep c u x2 z2 x3 z3).2.2.1 = ((x2 - z2) * (x3 + z3) + (x2 + z2) * (x3 - z3)) * ((x2 - z2) * (x3 + z3) + (x2 + z2) * (x3 - z3)) := by unfold fstep; clear this hk hq hq1 hu hc hp; grind
    have e2 : (fstep c u x2 z2 x3 z3).2.2.2 = u * (((x2 - z2) * (x3 + z3) - (x2 + z2) * (x3 - z3)) * ((x2 - z2) * (x3 + z3) - (x2 + z2) * (x3 - z3))) := by unfold fstep; clear this hk hq hq1 hu hc hp e1; grind
    rw [e1, e2]; exact this
  · have := dbl_rep h hD he hc c0 c1 hq1 hk.b
    rw [show 2 * m + 1 + 1 = (m + 1) + (m + 1) by omega, mp_add h hD hp (m + 1) (m + 1)]; exact this

theorem kept_all (h : Fld n iv) (hD : NonSq D) (he : e * e = 1) (hc : D * (2 * c + 1 + e) = 2 * c + 1 - e) (c0 : c ≠ 0) (c1 : c + 1 ≠ 0)
    {x y u : Fin n} (hp : On D x y) (hu : u * (1 - y) = e * (1 + y)) (hy : y ≠ 1) (hu0 : u ≠ 0) (k : Nat → Bool) : ∀ j,
    Kept iv D x y e (mk k j) (fsel (fpst c u k j).2 (fpst c u k j).1.1 (fpst c u k j).1.2.2.1) (fsel (fpst c u k j).2 (fpst c u k j).1.2.1 (fpst c u k j).1.2.2.2)
      (fsel (fpst c u k j).2 (fpst c u k j).1.2.2.1 (fpst c u k j).1.1) (fsel (fpst c u k j).2 (fpst c u k j).1.2.2.2 (fpst c u k j).1.2.1)
  | 0 => by
    have e0 : e ≠ 0 := by intro h0; rw [h0] at he; exact h.two (by grind)
    have i2 := h.inv 2 h.two
    have d0 : 1 - y ≠ 0 := by intro h0; exact hy (by grind)
    have id := h.inv _ d0
    refine ⟨⟨iv 2 * e, ?_, ?_, ?_⟩, ⟨iv (1 - y), ?_, ?_, ?_⟩⟩
    · refine h.ne_mul ?_ e0
      intro h0; rw [h0] at i2; exact h.two (by grind)
    · show (1 : Fin n) = iv 2 * e * e * (1 + 1)
      clear hc hp hu id; grind
    · show (0 : Fin n) = iv 2 * e * (1 - 1); clear hc hp hu id; grind
    · intro h0; rw [h0] at id; exact h.two (by clear hc hp hu; grind)
    · rw [show mk k 0 = 0 from rfl, show (0 + 1) = 1 from rfl, mp_one h]
      show u = iv (1 - y) * e * (1 + y); clear hc hp i2; grind
    · rw [show mk k 0 = 0 from rfl, show (0 + 1) = 1 from rfl, mp_one h]
      show (1 : Fin n) = iv (1 - y) * (1 - y); clear hc hp i2; grind
  | j + 1 => by
    have ih := kept_all h hD he hc c0 c1 hp hu hy hu0 k j
    show Kept iv D x y e (2 * mk k j + (k (254 - j)).toNat) (fsel (k (254 - j)) _ _) (fsel (k (254 - j)) _ _) (fsel (k (254 - j)) _ _) (fsel (k (254 - j)) _ _)
    simp only [fpst]
    generalize fpst c u k j = s at *
    obtain ⟨⟨x2, z2, x3, z3⟩, b⟩ := s
    cases hb : k (254 - j) <;> cases b
    · exact kept_zero h hD he hc c0 c1 hp hu hy hu0 ih
    · exact kept_zero h hD he hc c0 c1 hp hu hy hu0 ih
    · exact kept_one h hD he hc c0 c1 hp hu hy hu0 ih
    · exact kept_one h hD he hc c0 c1 hp hu hy hu0 ih

/-- The first coordinate at a point with this y. -/
def psi (iv : Fin n → Fin n) (e y : Fin n) : Fin n := e * (1 + y) * iv (1 - y)

theorem rep_psi (h : Fld n iv) (i0 : iv 0 = 0) {e y x z : Fin n} (hr : Rep e y x z) : x * iv z = psi iv e y := by
  obtain ⟨k, hk, hx, hz⟩ := hr
  unfold psi
  by_cases h1 : 1 - y = 0
  · have z0 : z = 0 := by rw [hz, h1]; grind
    rw [z0, h1, i0]; grind
  · have z0 : z ≠ 0 := by rw [hz]; exact h.ne_mul hk h1
    have a := h.inv z z0
    have b := h.inv _ h1
    refine h.cancel z0 ?_
    have t1 : z * (x * iv z) = x := by grind
    have t2 : z * (e * (1 + y) * iv (1 - y)) = k * e * (1 + y) * ((1 - y) * iv (1 - y)) := by rw [hz]; clear a b; grind
    rw [t1, t2, b, hx]; clear a b t1 t2; grind

/-- What the ladder tells of a first coordinate. -/
def fout (iv : Fin n → Fin n) (c u : Fin n) (k : Nat → Bool) : Fin n :=
  fsel (fpst c u k 255).2 (fpst c u k 255).1.1 (fpst c u k 255).1.2.2.1 * iv (fsel (fpst c u k 255).2 (fpst c u k 255).1.2.1 (fpst c u k 255).1.2.2.2)

theorem fout_psi (h : Fld n iv) (i0 : iv 0 = 0) (hD : NonSq D) (he : e * e = 1) (hc : D * (2 * c + 1 + e) = 2 * c + 1 - e) (c0 : c ≠ 0) (c1 : c + 1 ≠ 0)
    {x y u : Fin n} (hp : On D x y) (hu : u * (1 - y) = e * (1 + y)) (hy : y ≠ 1) (hu0 : u ≠ 0) (k : Nat → Bool) : fout iv c u k = psi iv e (mp iv D x y (mk k 255)).2 :=
  rep_psi h i0 (kept_all h hD he hc c0 c1 hp hu hy hu0 k 255).a

/-- Of the first coordinate 0 the ladder tells 0. -/
theorem zero_all (c : Fin n) (k : Nat → Bool) : ∀ j, (fpst c 0 k (j + 1)).1.2.1 = 0 ∧ (fpst c 0 k (j + 1)).1.2.2.2 = 0
  | 0 => by
    simp only [fpst]
    generalize (false != k (254 - 0)) = b
    cases b <;> (simp only [fstep, fsel]; grind)
  | j + 1 => by
    have ih := zero_all c k j
    rw [fpst]
    generalize fpst c 0 k (j + 1) = s at *
    obtain ⟨⟨x2, z2, x3, z3⟩, d⟩ := s
    obtain ⟨h1, h2⟩ := ih
    simp only at h1 h2
    subst h1 h2
    simp only
    generalize (d != k (254 - (j + 1))) = b
    cases b <;> (simp only [fstep, fsel]; grind)

theorem fout_zero (i0 : iv 0 = 0) (c : Fin n) (k : Nat → Bool) : fout iv c 0 k = 0 := by
  have := zero_all c k 254
  unfold fout
  rw [this.1, this.2]
  have e : ∀ d, fsel d (0 : Fin n) 0 = 0 := by intro d; cases d <;> rfl
  rw [e, i0]; grind

end
end Mth

namespace Mth
section
variable {n : Nat} [NeZero n] {iv : Fin n → Fin n}

theorem e_ne (h : Fld n iv) {e : Fin n} (he : e * e = 1) : e ≠ 0 := by intro h0; rw [h0] at he; exact h.two (by grind)

theorem sum_ne (h : Fld n iv) {e c D : Fin n} (he : e * e = 1) (hc : D * (2 * c + 1 + e) = 2 * c + 1 - e) : 2 * c + 1 + e ≠ 0 := by
  intro h0
  rw [h0] at hc
  have : 2 * e = 0 := by grind
  rcases h.dom this with r | r
  · exact h.two r
  · exact e_ne h he r

/-- A number on the line is the first coordinate of a point. -/
theorem lift (h : Fld n iv) {e c D : Fin n} (hD : NonSq D) (he : e * e = 1) (hc : D * (2 * c + 1 + e) = 2 * c + 1 - e) {u x t : Fin n}
    (ht : t = u * u + (4 * c + 2) * u + 1) (t0 : t ≠ 0) (hx : x * x * t = 2 * u * (2 * c + 1 + e)) :
    ∃ y, On D x y ∧ u * (1 - y) = e * (1 + y) ∧ y ≠ 1 := by
  have e0 := e_ne h he
  have s0 := sum_ne h he hc
  have ue : u + e ≠ 0 := by
    intro h0
    have hu : u = -e := by grind
    rw [ht, hu] at hx
    have h1 : 2 * (2 * c + 1 + e) * (x * x * D) = 2 * (2 * c + 1 + e) * 1 := by
      have : 2 * (2 * c + 1 + e) * (x * x * D) = 2 * (x * x) * (D * (2 * c + 1 + e)) := by clear hx hc he ht; grind
      rw [this, hc]
      have h3 : 2 * (x * x) * (2 * c + 1 - e) = -(e * (x * x * (-e * -e + (4 * c + 2) * -e + 1))) := by clear hx hc ht this; grind
      rw [h3, hx]; clear hx hc ht this h3; grind
    have h2 := h.cancel (h.ne_mul h.two s0) h1
    have x0 : x ≠ 0 := by intro h3; rw [h3] at h2; exact h.two (by clear hx hc ht; grind)
    have := h.inv x x0
    exact hD (iv x) (by clear hx hc ht h1; grind)
  have i := h.inv _ ue
  refine ⟨(u - e) * iv (u + e), ?_, ?_, ?_⟩
  · obtain ⟨y, hy⟩ : ∃ y, (u - e) * iv (u + e) = y := ⟨_, rfl⟩
    rw [hy]
    have hy' : y * (u + e) = u - e := by rw [← hy]; clear hx hc ht hy; grind
    clear i hy
    unfold On
    refine h.cancel (h.ne_mul t0 (h.ne_mul ue ue)) ?_
    have a1 : t * ((u + e) * (u + e)) * (x * x + y * y) = (x * x * t) * ((u + e) * (u + e)) + t * (y * (u + e) * (y * (u + e))) := by clear hx hc ht hy'; grind
    have a2 : t * ((u + e) * (u + e)) * (1 + D * (x * x) * (y * y)) = t * ((u + e) * (u + e)) + D * (x * x * t) * (y * (u + e) * (y * (u + e))) := by clear hx hc ht hy' a1; grind
    have a3 : D * (2 * u * (2 * c + 1 + e)) = 2 * u * (2 * c + 1 - e) := by rw [← hc]; clear hx hc ht hy' a1 a2; grind
    rw [a1, a2, hx, hy', a3, ht]
    clear hx hc ht hy' a1 a2 a3
    grind
  · clear hx hc ht; grind
  · intro h1
    have h2 : u - e = u + e := by clear hx hc ht; grind
    have h3 : 2 * e = 0 := by clear hx hc ht h1 i; grind
    rcases h.dom h3 with r | r
    · exact h.two r
    · exact e0 r

theorem psi_zero (h : Fld n iv) {e y : Fin n} (he : e * e = 1) (hz : psi iv e y = 0) : y = 1 ∨ y = -1 := by
  unfold psi at hz
  by_cases h1 : 1 - y = 0
  · left; grind
  · right
    have i := h.inv _ h1
    have i0 : iv (1 - y) ≠ 0 := by intro h2; rw [h2] at i; exact h.two (by clear hz; grind)
    rcases h.dom hz with r | r
    · rcases h.dom r with r | r
      · exact absurd r (e_ne h he)
      · clear hz i; grind
    · exact absurd r i0

theorem psi_one (i0 : iv 0 = 0) (e : Fin n) : psi iv e 1 = 0 := by
  unfold psi; rw [show (1 : Fin n) - 1 = 0 by grind, i0]; grind
theorem psi_neg (e : Fin n) : psi iv e (-1) = 0 := by
  unfold psi; rw [show (1 : Fin n) + -1 = 0 by grind]; grind

theorem mp_neg (h : Fld n iv) (D : Fin n) : ∀ k, (mp iv D 0 (-1) k).1 = 0 ∧ ((mp iv D 0 (-1) k).2 = 1 ∨ (mp iv D 0 (-1) k).2 = -1)
  | 0 => ⟨rfl, Or.inl rfl⟩
  | k + 1 => by
    obtain ⟨h1, h2⟩ := mp_neg h D k
    have i := iv_one h
    unfold mp
    rw [h1]
    unfold addx addy
    generalize (mp iv D 0 (-1) k).2 = t at *
    have e1 : 1 + D * (0 * 0 * t * -1) = 1 := by grind
    have e2 : 1 - D * (0 * 0 * t * -1) = 1 := by grind
    simp only
    rw [e1, e2, i]
    refine ⟨by grind, ?_⟩
    rcases h2 with r | r <;> rw [r]
    · right; grind
    · left; grind

/-- The ladder at what tells a point tells its multiple. -/
theorem fout_at (h : Fld n iv) (i0 : iv 0 = 0) {e c D : Fin n} (hD : NonSq D) (he : e * e = 1) (hc : D * (2 * c + 1 + e) = 2 * c + 1 - e) (c0 : c ≠ 0) (c1 : c + 1 ≠ 0)
    {x y : Fin n} (hp : On D x y) (k : Nat → Bool) : fout iv c (psi iv e y) k = psi iv e (mp iv D x y (mk k 255)).2 := by
  by_cases h1 : y = 1
  · subst h1
    have := y_one h hD hp
    subst this
    rw [psi_one i0, fout_zero i0, mp_id h, psi_one i0]
  by_cases h2 : y = -1
  · subst h2
    have := y_neg h hD hp
    subst this
    rw [psi_neg, fout_zero i0]
    rcases (mp_neg h D (mk k 255)).2 with r | r <;> rw [r]
    · rw [psi_one i0]
    · rw [psi_neg]
  have d0 : 1 - y ≠ 0 := by intro h3; exact h1 (by grind)
  have i := h.inv _ d0
  refine fout_psi h i0 hD he hc c0 c1 hp ?_ h1 ?_ k
  · unfold psi; clear hc hp; grind
  · intro h3
    rcases psi_zero h he h3 with r | r
    · exact h1 r
    · exact h2 r

/-- Each number is told of a point of one of the curves. -/
def Told (c u e D x y : Fin n) : Prop := NonSq D ∧ e * e = 1 ∧ D * (2 * c + 1 + e) = 2 * c + 1 - e ∧ On D x y ∧ u * (1 - y) = e * (1 + y) ∧ y ≠ 1

theorem fout_turns (h : Fld n iv) (i0 : iv 0 = 0) {c : Fin n} (c0 : c ≠ 0) (c1 : c + 1 ≠ 0) {u : Fin n} (hu : u ≠ 0 → ∃ e D x y, Told c u e D x y) (a b : Nat → Bool) :
    fout iv c (fout iv c u b) a = fout iv c (fout iv c u a) b := by
  by_cases u0 : u = 0
  · subst u0; rw [fout_zero i0, fout_zero i0, fout_zero i0]
  obtain ⟨e, D, x, y, hD, he, hc, hp, hy, y1⟩ := hu u0
  rw [fout_psi h i0 hD he hc c0 c1 hp hy y1 u0, fout_psi h i0 hD he hc c0 c1 hp hy y1 u0, fout_at h i0 hD he hc c0 c1 (on_mp h hD hp _), fout_at h i0 hD he hc c0 c1 (on_mp h hD hp _),
    mp_mul h hD hp, mp_mul h hD hp, Nat.mul_comm]

theorem mp_gcd (h : Fld n iv) {D x y : Fin n} (hD : NonSq D) (hp : On D x y) : ∀ (k a b : Nat), a + b ≤ k → mp iv D x y a = (0, 1) → mp iv D x y b = (0, 1) → mp iv D x y (Nat.gcd a b) = (0, 1)
  | 0, a, b => by intro hk ha hb; have : a = 0 := by omega
                  have : b = 0 := by omega
                  subst a b; exact rfl
  | k + 1, a, b => by
    intro hk ha hb
    have low : ∀ p q : Nat, mp iv D x y (p + q) = (0, 1) → mp iv D x y q = (0, 1) → mp iv D x y p = (0, 1) := by
      intro p q h1 h2
      rw [mp_add h hD hp p q, h2, (add_id h D _ _).1, (add_id h D _ _).2] at h1; exact h1
    rcases Nat.eq_zero_or_pos a with r | r
    · subst r; rw [Nat.gcd_zero_left]; exact hb
    rcases Nat.eq_zero_or_pos b with s | s
    · subst s; rw [Nat.gcd_zero_right]; exact ha
    rcases Nat.le_total a b with t | t
    · have := mp_gcd h hD hp k a (b - a) (by omega) ha (low (b - a) a (by rw [Nat.sub_add_cancel t]; exact hb) ha)
      rwa [Nat.gcd_sub_self_right t] at this
    · have := mp_gcd h hD hp k (a - b) b (by omega) (low (a - b) b (by rw [Nat.sub_add_cancel t]; exact ha) hb) hb
      rwa [Nat.gcd_sub_self_left t] at this

/-- No multiple of a point of prime order q by a number that q does not divide tells 0. -/
theorem fout_ne (h : Fld n iv) (i0 : iv 0 = 0) {e c D : Fin n} (hD : NonSq D) (he : e * e = 1) (hc : D * (2 * c + 1 + e) = 2 * c + 1 - e) (c0 : c ≠ 0) (c1 : c + 1 ≠ 0)
    {x y u : Fin n} (hp : On D x y) (hu : u * (1 - y) = e * (1 + y)) (hy : y ≠ 1) (hu0 : u ≠ 0) {q : Nat} (hq : Pr q) (h2q : ¬ q ∣ 2) (ho : mp iv D x y q = (0, 1))
    {k : Nat → Bool} (hk : ¬ q ∣ mk k 255) : fout iv c u k ≠ 0 := by
  rw [fout_psi h i0 hD he hc c0 c1 hp hu hy hu0]
  intro hz
  have on := on_mp h hD hp (mk k 255)
  have dbl : mp iv D x y (mk k 255 * 2) = (0, 1) := by
    rw [← mp_mul h hD hp]
    generalize mp iv D x y (mk k 255) = r at *
    obtain ⟨rx, ry⟩ := r
    simp only at hz on ⊢
    rcases psi_zero h he hz with s | s
    · subst s
      have := y_one h hD on
      subst this
      exact mp_id h D 2
    · subst s
      have := y_neg h hD on
      subst this
      have i := iv_one h
      have o : mp iv D 0 (-1) 1 = (0, -1) := mp_one h D 0 (-1)
      show (addx iv D (mp iv D 0 (-1) 1).1 (mp iv D 0 (-1) 1).2 0 (-1), addy iv D (mp iv D 0 (-1) 1).1 (mp iv D 0 (-1) 1).2 0 (-1)) = _
      rw [o]
      unfold addx addy
      have e1 : 1 + D * (0 * 0 * -1 * -1) = 1 := by grind
      have e2 : 1 - D * (0 * 0 * -1 * -1) = 1 := by grind
      simp only
      rw [e1, e2, i]
      refine Prod.ext ?_ ?_ <;> (simp only; grind)
  have g := mp_gcd h hD hp _ q (mk k 255 * 2) (Nat.le_refl _) ho dbl
  rw [hq.cop (by intro hd; rcases hq.dvd_mul hd with r | r; exact hk r; exact h2q r), mp_one h] at g
  exact hy (congrArg Prod.snd g)

/-- Eight times a point is at infinity if three doublings tell so. -/
def dbl2 (c x z : Fin n) : Fin n × Fin n :=
  ((x + z) * (x + z) * ((x - z) * (x - z)), ((x + z) * (x + z) - (x - z) * (x - z)) * ((x + z) * (x + z) + c * ((x + z) * (x + z) - (x - z) * (x - z))))

theorem fout_eight (h : Fld n iv) (i0 : iv 0 = 0) {c : Fin n} (c0 : c ≠ 0) (c1 : c + 1 ≠ 0) {u : Fin n} (hu : u ≠ 0 → ∃ e D x y, Told c u e D x y) {k : Nat → Bool} {m : Nat} (hk : mk k 255 = 8 * m)
    (hz : u ≠ 0 → (dbl2 c (dbl2 c (dbl2 c u 1).1 (dbl2 c u 1).2).1 (dbl2 c (dbl2 c u 1).1 (dbl2 c u 1).2).2).2 = 0) : fout iv c u k = 0 := by
  by_cases u0 : u = 0
  · subst u0; exact fout_zero i0 c k
  obtain ⟨e, D, x, y, hD, he, hc, hp, hy, y1⟩ := hu u0
  have hz := hz u0
  have d0 : 1 - y ≠ 0 := by intro h3; exact y1 (by grind)
  have i := h.inv _ d0
  have r1 : Rep e y u 1 := ⟨iv (1 - y), by intro h0; rw [h0] at i; exact h.two (by clear hc hp hy hz; grind), by clear hc hp hz; grind, by clear hc hp hy hz; grind⟩
  have d : ∀ {xq yq X Z : Fin n}, On D xq yq → Rep e yq X Z → Rep e (mp iv D xq yq 2).2 (dbl2 c X Z).1 (dbl2 c X Z).2 := by
    intro xq yq X Z hq hr
    have := dbl_rep h hD he hc c0 c1 hq hr
    show Rep e (addy iv D (mp iv D xq yq 1).1 (mp iv D xq yq 1).2 xq yq) _ _
    rw [mp_one h]; exact this
  have r2 := d hp r1
  have o2 := on_mp h hD hp 2
  have r3 := d o2 r2
  have o3 := on_mp h hD o2 2
  have r4 := d o3 r3
  have o4 := on_mp h hD o3 2
  obtain ⟨l, hl, _, hz'⟩ := r4
  rw [hz] at hz'
  rw [mp_mul h hD hp, mp_mul h hD hp] at hz' o4
  have y8 : (mp iv D x y (2 * 2 * 2)).2 = 1 := by
    rcases h.dom hz'.symm with r | r
    · exact absurd r hl
    · clear hz hz' hc hp; grind
  rw [fout_psi h i0 hD he hc c0 c1 hp hy y1 u0, hk, ← mp_mul h hD hp]
  have x8 : (mp iv D x y (2 * 2 * 2)).1 = 0 := by rw [y8] at o4; exact y_one h hD o4
  rw [show (8 : Nat) = 2 * 2 * 2 from rfl, x8, y8, mp_id h, psi_one i0]

end
end Mth

namespace Mth

abbrev P : Nat := 57896044618658097711785492504343953926634992332820282019728792003956564819949
abbrev Fp := Fin P
instance : NeZero P := ⟨by decide⟩

def fpow (a : Fp) : Nat → Fp
  | 0 => 1
  | k + 1 => fpow a k * a

theorem fpow_val (a : Fp) : ∀ k, (fpow a k).val = a.val ^ k % P
  | 0 => rfl
  | k + 1 => by
    show (fpow a k * a).val = _
    rw [Fin.val_mul, fpow_val a k, Nat.pow_succ]
    simp [Nat.mod_mul_mod]

theorem fpow_pm (a : Fp) (k : Nat) (hk : k < 2 ^ 256) : (fpow a k).val = pm P 256 a.val k 1 % P := by
  rw [fpow_val, pm_eq P 256 a.val k 1 hk, Nat.one_mul]

theorem fpow_add (a : Fp) (i : Nat) : ∀ j, fpow a (i + j) = fpow a i * fpow a j
  | 0 => by show fpow a i = fpow a i * 1; grind
  | j + 1 => by show fpow a (i + j) * a = fpow a i * (fpow a j * a); rw [fpow_add a i j]; grind

theorem fpow_mul (a b : Fp) : ∀ j, fpow (a * b) j = fpow a j * fpow b j
  | 0 => by show (1 : Fp) = 1 * 1; grind
  | j + 1 => by show fpow (a * b) j * (a * b) = (fpow a j * a) * (fpow b j * b); rw [fpow_mul a b j]; grind

theorem fpow_pow (a : Fp) (i : Nat) : ∀ j, fpow a (i * j) = fpow (fpow a i) j
  | 0 => rfl
  | j + 1 => by rw [Nat.mul_succ, fpow_add, fpow_pow a i j]; rfl

theorem fpow_one (a : Fp) : fpow a 1 = a := by show 1 * a = a; grind

theorem val_dvd {a : Fp} (ha : a ≠ 0) : ¬ P ∣ a.val := by
  intro h
  have h1 := a.isLt
  have h2 : a.val ≠ 0 := fun h => ha (Fin.ext h)
  exact absurd (Nat.le_of_dvd (by omega) h) (by omega)

theorem little {a : Fp} (ha : a ≠ 0) : fpow a (P - 1) = 1 := by
  apply Fin.ext
  rw [fpow_val, fermat1 pr_P (val_dvd ha)]; rfl

def iv (a : Fp) : Fp := fpow a (P - 2)

theorem iv0 : iv 0 = 0 := by
  unfold iv
  apply Fin.ext
  rw [fpow_pm 0 (P - 2) (by decide)]; decide +kernel

theorem fld : Fld P iv := by
  refine ⟨fun a ha => ?_, by decide⟩
  have h := little ha
  have e : P - 1 = 1 + (P - 2) := by decide
  rw [e, fpow_add, fpow_one] at h
  exact h

def hP : Nat := 28948022309329048855892746252171976963317496166410141009864396001978282409974

theorem euler {a : Fp} (ha : a ≠ 0) : fpow a hP = 1 ∨ fpow a hP = -1 := by
  have h := little ha
  have e : P - 1 = hP + hP := by decide
  rw [e, fpow_add] at h
  generalize fpow a hP = t at *
  have : (t - 1) * (t + 1) = 0 := by grind
  rcases fld.dom this with r | r
  · left; grind
  · right; grind

theorem euler_sq {a : Fp} (ha : a ≠ 0) : fpow (a * a) hP = 1 := by
  rw [fpow_mul, ← fpow_add]
  have e : hP + hP = P - 1 := by decide
  rw [e]; exact little ha

def eP : Nat := 7237005577332262213973186563042994240829374041602535252466099000494570602493
/-- A number whose power tells so is a square. -/
theorem root {a : Fp} (ha : fpow a hP = 1) : ∃ r, r * r = a := by
  have e : hP = (2 * eP + 1) + (2 * eP + 1) := by decide
  have h2 : fpow 2 hP = -1 := by apply Fin.ext; rw [fpow_pm 2 hP (by decide)]; decide +kernel
  rw [e, fpow_add] at ha
  rw [e, fpow_add] at h2
  generalize fpow 2 (2 * eP + 1) = w at *
  have q : fpow a (eP + 1) * fpow a (eP + 1) = fpow a (2 * eP + 1) * a := by
    rw [← fpow_add, show (eP + 1) + (eP + 1) = (2 * eP + 1) + 1 by omega, fpow_add a (2 * eP + 1) 1, fpow_one]
  generalize fpow a (2 * eP + 1) = t at *
  generalize fpow a (eP + 1) = s at *
  have : (t - 1) * (t + 1) = 0 := by clear q h2; grind
  rcases fld.dom this with r | r
  · exact ⟨s, by clear h2 ha this; grind⟩
  · exact ⟨s * w, by clear ha this; grind⟩

theorem no_root {a : Fp} (ha : a ≠ 0) (h : fpow a hP ≠ 1) : NonSq a := by
  intro r hr
  have r0 : r ≠ 0 := by intro h0; rw [h0] at hr; exact ha (by rw [← hr]; grind)
  exact h (by rw [← hr]; exact euler_sq r0)

/-- Of two that are no squares the product is one. -/
theorem two_no {a b : Fp} (ha : a ≠ 0) (hb : b ≠ 0) (na : NonSq a) (nb : NonSq b) : ∃ r, r * r = a * b := by
  have e1 := (euler ha).resolve_left (fun h => by obtain ⟨r, hr⟩ := root h; exact na r hr)
  have e2 := (euler hb).resolve_left (fun h => by obtain ⟨r, hr⟩ := root h; exact nb r hr)
  exact root (by rw [fpow_mul, e1, e2]; grind)

abbrev cA : Fp := 121665
theorem cA0 : cA ≠ 0 := by decide
theorem cA1 : cA + 1 ≠ 0 := by decide
theorem prod_no : NonSq (cA * (cA + 1)) := by
  refine no_root (by decide +kernel) ?_
  intro h
  have h := congrArg Fin.val h
  rw [fpow_pm _ hP (by decide)] at h
  revert h; decide +kernel

theorem neg_root : ∃ r : Fp, r * r = -1 := root (by apply Fin.ext; rw [fpow_pm _ hP (by decide)]; decide +kernel)

theorem d1_no : NonSq (cA * iv (cA + 1)) := by
  intro r hr
  have i := fld.inv _ cA1
  exact prod_no (r * (cA + 1)) (by generalize cA + 1 = d at *; generalize cA = c at *; grind)
theorem d2_no : NonSq ((cA + 1) * iv cA) := by
  intro r hr
  have i := fld.inv _ cA0
  exact prod_no (r * cA) (by generalize cA + 1 = d at *; generalize cA = c at *; grind)

theorem t_ne (u : Fp) : u * u + (4 * cA + 2) * u + 1 ≠ 0 := by
  intro h
  have i := fld.inv _ fld.two
  refine prod_no ((u + 2 * cA + 1) * iv 2) ?_
  generalize cA = c at *
  have e : (u + 2 * c + 1) * (u + 2 * c + 1) = 2 * 2 * (c * (c + 1)) := by clear i; grind
  have e2 : (u + 2 * c + 1) * iv 2 * ((u + 2 * c + 1) * iv 2) = (u + 2 * c + 1) * (u + 2 * c + 1) * (iv 2 * iv 2) := by clear e i h; grind
  rw [e2, e]; clear e e2 h; grind

/-- Each number but 0 is the first coordinate of a point of the curve or of its twist. -/
theorem told {u : Fp} (hu : u ≠ 0) : ∃ e D x y, Told cA u e D x y := by
  have t0 := t_ne u
  have it := fld.inv _ t0
  have i1 := fld.inv _ cA1
  have i0 := fld.inv _ cA0
  obtain ⟨t, ht⟩ : ∃ t, t = u * u + (4 * cA + 2) * u + 1 := ⟨_, rfl⟩
  rw [← ht] at t0 it
  have four : (4 : Fp) ≠ 0 := by decide
  have it0 : iv t ≠ 0 := by intro h0; rw [h0] at it; exact fld.two (by clear i0 i1 ht; grind)
  have w0 : 4 * (cA + 1) * u * iv t ≠ 0 := fld.ne_mul (fld.ne_mul (fld.ne_mul four cA1) hu) it0
  by_cases hs : ∃ r, r * r = 4 * (cA + 1) * u * iv t
  · obtain ⟨x, hx⟩ := hs
    have c0 := cA0
    have no := d1_no
    generalize cA = c at *
    have hc : c * iv (c + 1) * (2 * c + 1 + 1) = 2 * c + 1 - 1 := by clear it ht hx; grind
    obtain ⟨y, h1, h2, h3⟩ := lift fld (e := 1) (c := c) no (by grind) hc (u := u) (x := x) ht t0 (by rw [hx]; clear ht hx hc i1 i0; grind)
    exact ⟨1, _, x, y, no, by grind, hc, h1, h2, h3⟩
  · have d0 : cA * iv (cA + 1) ≠ 0 := by
      intro h0; exact d1_no 0 (by rw [h0]; grind)
    obtain ⟨x, hx⟩ := two_no w0 d0 (fun r hr => hs ⟨r, hr⟩) d1_no
    have c1 := cA1
    have no := d2_no
    generalize cA = c at *
    have hc : (c + 1) * iv c * (2 * c + 1 + -1) = 2 * c + 1 - -1 := by clear it ht hx; grind
    have hx' : x * x = 4 * c * u * iv t := by rw [hx]; clear ht hx hc it i0; grind
    obtain ⟨y, h1, h2, h3⟩ := lift fld (e := -1) (c := c) no (by grind) hc (u := u) (x := x) ht t0 (by rw [hx']; clear ht hx hx' hc i1 i0; grind)
    exact ⟨-1, _, x, y, no, by grind, hc, h1, h2, h3⟩

/-! The order of the base point. -/
abbrev F4 := Fp × Fp × Fp × Fp
def frun (c u : Fp) : List Bool → F4 → F4
  | [], s => s
  | false :: bs, s => frun c u bs (fstep c u s.1 s.2.1 s.2.2.1 s.2.2.2)
  | true :: bs, s =>
    let t := fstep c u s.2.2.1 s.2.2.2 s.1 s.2.1
    frun c u bs (t.2.2.1, t.2.2.2, t.1, t.2.1)

def numB : List Bool → Nat → Nat
  | [], m => m
  | b :: bs, m => numB bs (2 * m + b.toNat)

theorem frun_kept {e D x y u : Fp} (h : Told cA u e D x y) (hu : u ≠ 0) : ∀ (bs : List Bool) (m : Nat) (s : F4), Kept iv D x y e m s.1 s.2.1 s.2.2.1 s.2.2.2 →
    Kept iv D x y e (numB bs m) (frun cA u bs s).1 (frun cA u bs s).2.1 (frun cA u bs s).2.2.1 (frun cA u bs s).2.2.2
  | [], _, _ => id
  | false :: bs, m, _ => fun hk => frun_kept h hu bs (2 * m) _ (kept_zero fld h.1 h.2.1 h.2.2.1 cA0 cA1 h.2.2.2.1 h.2.2.2.2.1 h.2.2.2.2.2 hu hk)
  | true :: bs, m, _ => fun hk => frun_kept h hu bs (2 * m + 1) _ (kept_one fld h.1 h.2.1 h.2.2.1 cA0 cA1 h.2.2.2.1 h.2.2.2.2.1 h.2.2.2.2.2 hu hk)

/-- The same on natural numbers; it tells the second. -/
def nsq (a : Nat) : Nat := a * a % P
def nrun (u : Nat) : List Bool → Nat → Nat → Nat → Nat → Nat
  | [], _, z2, _, _ => z2
  | false :: bs, x2, z2, x3, z3 =>
    nrun u bs (nsq ((x2 + z2) % P) * nsq ((P - z2 + x2) % P) % P)
      ((P - nsq ((P - z2 + x2) % P) + nsq ((x2 + z2) % P)) % P * ((nsq ((x2 + z2) % P) + 121665 * ((P - nsq ((P - z2 + x2) % P) + nsq ((x2 + z2) % P)) % P) % P) % P) % P)
      (nsq (((P - z3 + x3) % P * ((x2 + z2) % P) % P + (x3 + z3) % P * ((P - z2 + x2) % P) % P) % P))
      (u * nsq ((P - (x3 + z3) % P * ((P - z2 + x2) % P) % P + (P - z3 + x3) % P * ((x2 + z2) % P) % P) % P) % P)
  | true :: bs, x3, z3, x2, z2 =>
    nrun u bs (nsq (((P - z3 + x3) % P * ((x2 + z2) % P) % P + (x3 + z3) % P * ((P - z2 + x2) % P) % P) % P))
      (u * nsq ((P - (x3 + z3) % P * ((P - z2 + x2) % P) % P + (P - z3 + x3) % P * ((x2 + z2) % P) % P) % P) % P)
      (nsq ((x2 + z2) % P) * nsq ((P - z2 + x2) % P) % P)
      ((P - nsq ((P - z2 + x2) % P) + nsq ((x2 + z2) % P)) % P * ((nsq ((x2 + z2) % P) + 121665 * ((P - nsq ((P - z2 + x2) % P) + nsq ((x2 + z2) % P)) % P) % P) % P) % P)

theorem nrun_eq (u : Fp) : ∀ (bs : List Bool) (s : F4), (frun cA u bs s).2.1.val = nrun u.val bs s.1.val s.2.1.val s.2.2.1.val s.2.2.2.val
  | [], _ => rfl
  | false :: bs, _ => nrun_eq u bs _
  | true :: bs, _ => nrun_eq u bs (_, _, _, _)

def oL : Nat := 7237005577332262213973186563042994240857116359379907606001950938285454250989
def oBits : List Bool := (List.range 253).map fun i => oL.testBit (252 - i)
theorem oBits_num : numB oBits 0 = oL := by decide +kernel
theorem oBits_run : nrun (9 : Fp).val oBits (1 : Fp).val (0 : Fp).val (9 : Fp).val (1 : Fp).val = (0 : Fp).val := by decide +kernel
end Mth

namespace Mth

theorem kept_start {e D x y u : Fp} (h : Told cA u e D x y) (hu : u ≠ 0) : Kept iv D x y e 0 1 0 u 1 :=
  kept_all fld h.1 h.2.1 h.2.2.1 cA0 cA1 h.2.2.2.1 h.2.2.2.2.1 h.2.2.2.2.2 hu (fun _ => false) 0

theorem nrun_at (u : Fp) (bs : List Bool) (a b c d : Fp) (h : nrun u.val bs a.val b.val c.val d.val = (0 : Fp).val) : (frun cA u bs (a, b, c, d)).2.1 = 0 := Fin.ext ((nrun_eq u bs (a, b, c, d)).trans h)
theorem order_z : (frun cA 9 oBits (1, 0, 9, 1)).2.1 = 0 := nrun_at _ _ _ _ _ _ oBits_run

theorem kept_run {e D x y u : Fp} (h : Told cA u e D x y) (hu : u ≠ 0) (bs : List Bool) {a b c d : Fp} (hk : Kept iv D x y e 0 a b c d) : Rep e (mp iv D x y (numB bs 0)).2 (frun cA u bs (a, b, c, d)).1 (frun cA u bs (a, b, c, d)).2.1 :=
  (frun_kept h hu bs 0 (a, b, c, d) hk).a

theorem order_of {e D x y X Z : Fp} {q : Nat} (hD : NonSq D) (hp : On D x y) (k : Rep e (mp iv D x y q).2 X Z) (z : Z = 0) : mp iv D x y q = (0, 1) := by
  obtain ⟨l, hl, _, hz⟩ := k
  have on := on_mp fld hD hp q
  have y1 : (mp iv D x y q).2 = 1 := by
    rcases fld.dom (z.symm.trans hz).symm with r | r
    · exact absurd r hl
    · generalize (mp iv D x y q).2 = t at *; clear hz on; grind
  have x1 : (mp iv D x y q).1 = 0 := by rw [y1] at on; exact y_one fld hD on
  exact Prod.ext x1 y1

theorem order_num {e D x y : Fp} (h : Told cA 9 e D x y) : mp iv D x y (numB oBits 0) = (0, 1) := by
  have k9 : Kept iv D x y e 0 1 0 9 1 := kept_start h (by decide)
  have z := order_z
  have r := kept_run h (by decide) oBits k9
  generalize frun cA 9 oBits (1, 0, 9, 1) = s at z r
  exact order_of h.1 h.2.2.2.1 r z

/-- The base point's order. -/
theorem order {e D x y : Fp} (h : Told cA 9 e D x y) : mp iv D x y oL = (0, 1) := by
  have := order_num h
  rw [oBits_num] at this
  exact this

/-- A scalar as the ladder takes it. -/
structure Clamped (k : Nat → Bool) : Prop where
  b0 : k 0 = false
  b1 : k 1 = false
  b2 : k 2 = false
  top : k 254 = true

theorem mk_eight {k : Nat → Bool} (h : Clamped k) : mk k 255 = 8 * mk k 252 := by
  have e : mk k 255 = 2 * (2 * (2 * mk k 252 + (k 2).toNat) + (k 1).toNat) + (k 0).toNat := rfl
  rw [e, h.b0, h.b1, h.b2]; show 2 * (2 * (2 * mk k 252 + 0) + 0) + 0 = _; omega

theorem mk_pos {k : Nat → Bool} (h : Clamped k) : ∀ j, 0 < mk k (j + 1)
  | 0 => by
    have e : mk k 1 = 2 * 0 + (k 254).toNat := rfl
    rw [e, h.top]; decide
  | j + 1 => by
    have := mk_pos h j
    show 0 < 2 * mk k (j + 1) + _
    omega

theorem not_dvd {k : Nat → Bool} (h : Clamped k) : ¬ oL ∣ mk k 255 := by
  rw [mk_eight h]
  intro hd
  rcases Pr.dvd_mul pr_L hd with r | r
  · exact absurd (Nat.le_of_dvd (by decide) r) (by decide)
  · have h1 := mk_lt k 252
    have h2 : 0 < mk k 252 := mk_pos h 251
    have h3 := Nat.le_of_dvd h2 r
    have h4 : (2 : Nat) ^ 252 < oL := by decide +kernel
    omega

/-- The public key is not nought. -/
theorem pub_ne {k : Nat → Bool} (h : Clamped k) : fout iv cA 9 k ≠ 0 := by
  obtain ⟨e, D, x, y, t⟩ := told (u := 9) (by decide)
  exact fout_ne fld iv0 t.1 t.2.1 t.2.2.1 cA0 cA1 t.2.2.2.1 t.2.2.2.2.1 t.2.2.2.2.2 (by decide) pr_L (by intro hd; exact absurd (Nat.le_of_dvd (by decide) hd) (by decide)) (order t) (not_dvd h)

/-- Scalars may be taken in either order. -/
theorem turns (u : Fp) (a b : Nat → Bool) : fout iv cA (fout iv cA u b) a = fout iv cA (fout iv cA u a) b :=
  fout_turns fld iv0 cA0 cA1 (fun h => told h) a b

/-- Of points of small order the ladder tells 0. -/
theorem small_order {u : Fp} {k : Nat → Bool} (h : Clamped k) (hz : u ≠ 0 → (dbl2 cA (dbl2 cA (dbl2 cA u 1).1 (dbl2 cA u 1).2).1 (dbl2 cA (dbl2 cA u 1).1 (dbl2 cA u 1).2).2).2 = 0) : fout iv cA u k = 0 :=
  fout_eight fld iv0 cA0 cA1 (fun h => told h) (mk_eight h) hz

/-! Numbers of Int. -/
def fp (x : Int) : Fp := ⟨(x % 57896044618658097711785492504343953926634992332820282019728792003956564819949).toNat, by unfold P; omega⟩

theorem fp_eq {x y : Int} (h : x % 57896044618658097711785492504343953926634992332820282019728792003956564819949 = y % 57896044618658097711785492504343953926634992332820282019728792003956564819949) : fp x = fp y := by
  apply Fin.ext; show (_ : Int).toNat = (_ : Int).toNat; rw [h]
theorem fp_add (x y : Int) : fp (x + y) = fp x + fp y := by
  apply Fin.ext; rw [Fin.val_add]; show (_ : Int).toNat = ((_ : Int).toNat + (_ : Int).toNat) % P; unfold P; omega
theorem fp_sub (x y : Int) : fp (x - y) = fp x - fp y := by
  apply Fin.ext; rw [Fin.sub_def]; show (_ : Int).toNat = (P - (_ : Int).toNat + (_ : Int).toNat) % P; unfold P; omega
theorem fp_mul (x y : Int) : fp (x * y) = fp x * fp y := by
  apply Fin.ext
  rw [Fin.val_mul]
  show (_ : Int).toNat = ((_ : Int).toNat * (_ : Int).toNat) % P
  rw [Int.mul_emod]
  have hx := Int.emod_nonneg x (show (57896044618658097711785492504343953926634992332820282019728792003956564819949 : Int) ≠ 0 by decide)
  have hy := Int.emod_nonneg y (show (57896044618658097711785492504343953926634992332820282019728792003956564819949 : Int) ≠ 0 by decide)
  generalize x % 57896044618658097711785492504343953926634992332820282019728792003956564819949 = a at *
  generalize y % 57896044618658097711785492504343953926634992332820282019728792003956564819949 = b at *
  obtain ⟨a, rfl⟩ := Int.eq_ofNat_of_zero_le hx
  obtain ⟨b, rfl⟩ := Int.eq_ofNat_of_zero_le hy
  unfold P
  rw [← Int.natCast_mul, Int.toNat_natCast, Int.toNat_natCast]
  generalize a * b = c
  omega
theorem fp_val (x : Int) : ((fp x).val : Int) = x % 57896044618658097711785492504343953926634992332820282019728792003956564819949 := by
  show (((_ : Int).toNat : Nat) : Int) = _; omega
theorem fp_inj {x y : Int} (h : fp x = fp y) : x % 57896044618658097711785492504343953926634992332820282019728792003956564819949 = y % 57896044618658097711785492504343953926634992332820282019728792003956564819949 := by
  rw [← fp_val, ← fp_val, h]
theorem fp_pow (x : Int) : ∀ k : Nat, fp (x ^ k) = fpow (fp x) k
  | 0 => by rw [Int.pow_zero]; rfl
  | k + 1 => by rw [Int.pow_succ, fp_mul, fp_pow x k]; rfl
end Mth
