/-
  The prime P and the order L of the group.
-/
namespace Mth

/-- A prime number. -/
def Pr (n : Nat) : Prop := 2 ≤ n ∧ ∀ m, m ∣ n → m = 1 ∨ m = n

theorem Pr.cop {p a : Nat} (hp : Pr p) (h : ¬ p ∣ a) : Nat.gcd p a = 1 := by
  rcases hp.2 _ (Nat.gcd_dvd_left p a) with h1 | h1
  · exact h1
  · exact absurd (h1 ▸ Nat.gcd_dvd_right p a) h

theorem Pr.dvd_mul {p a b : Nat} (hp : Pr p) (h : p ∣ a * b) : p ∣ a ∨ p ∣ b := by
  by_cases ha : p ∣ a
  · exact Or.inl ha
  · exact Or.inr (Nat.Coprime.dvd_of_dvd_mul_left (hp.cop ha) h)

/-- Every number from 2 on has a prime divisor. -/
theorem exists_pr : ∀ (k n : Nat), n ≤ k → 2 ≤ n → ∃ p, Pr p ∧ p ∣ n := by
  intro k
  induction k with
  | zero => intro n h1 h2; omega
  | succ k ih =>
    intro n h1 h2
    by_cases hn : ∀ m, m ∣ n → m = 1 ∨ m = n
    · exact ⟨n, ⟨h2, hn⟩, Nat.dvd_refl n⟩
    · have : ∃ m, m ∣ n ∧ m ≠ 1 ∧ m ≠ n := by
        apply Classical.byContradiction
        intro hc
        apply hn
        intro m hm
        by_cases h1 : m = 1
        · exact Or.inl h1
        · by_cases h2 : m = n
          · exact Or.inr h2
          · exact absurd ⟨m, hm, h1, h2⟩ hc
      obtain ⟨m, hm, m1, m2⟩ := this
      have hle := Nat.le_of_dvd (by omega) hm
      have h0 : m ≠ 0 := by rintro rfl; have := Nat.eq_zero_of_zero_dvd hm; omega
      obtain ⟨p, hp, hpm⟩ := ih m (by omega) (by omega)
      exact ⟨p, hp, Nat.dvd_trans hpm hm⟩

/-- A composite number has a prime divisor whose square is at most it. -/
theorem small_pr {n : Nat} (h2 : 2 ≤ n) (hn : ¬ Pr n) : ∃ p, Pr p ∧ p ∣ n ∧ p * p ≤ n := by
  have : ∃ m, m ∣ n ∧ m ≠ 1 ∧ m ≠ n := by
    apply Classical.byContradiction
    intro hc
    apply hn
    refine ⟨h2, fun m hm => ?_⟩
    by_cases h1 : m = 1
    · exact Or.inl h1
    · by_cases h2 : m = n
      · exact Or.inr h2
      · exact absurd ⟨m, hm, h1, h2⟩ hc
  obtain ⟨m, ⟨c, hc⟩, m1, m2⟩ := this
  have hm0 : m ≠ 0 := by rintro rfl; simp at hc; omega
  have hc0 : c ≠ 0 := by rintro rfl; simp at hc; omega
  have hc1 : c ≠ 1 := by rintro rfl; simp at hc; omega
  by_cases hle : m ≤ c
  · obtain ⟨p, hp, hpm⟩ := exists_pr m m (Nat.le_refl _) (by omega)
    have := Nat.le_of_dvd (by omega) hpm
    exact ⟨p, hp, Nat.dvd_trans hpm ⟨c, hc⟩, by rw [hc]; exact Nat.mul_le_mul this (Nat.le_trans this hle)⟩
  · obtain ⟨p, hp, hpc⟩ := exists_pr c c (Nat.le_refl _) (by omega)
    have := Nat.le_of_dvd (by omega) hpc
    exact ⟨p, hp, Nat.dvd_trans hpc ⟨m, by rw [hc, Nat.mul_comm]⟩, by rw [hc, Nat.mul_comm m c]; exact Nat.mul_le_mul this (by omega)⟩

/-! Binomial coefficients and Fermat's theorem. -/
def ch : Nat → Nat → Nat
  | _, 0 => 1
  | 0, _ + 1 => 0
  | n + 1, k + 1 => ch n k + ch n (k + 1)

theorem ch_gt : ∀ (n k : Nat), n < k → ch n k = 0
  | n, 0, h => absurd h (Nat.not_lt_zero _)
  | 0, _ + 1, _ => rfl
  | n + 1, k + 1, h => by rw [ch, ch_gt n k (by omega), ch_gt n (k + 1) (by omega)]

theorem ch_self : ∀ n, ch n n = 1
  | 0 => rfl
  | n + 1 => by rw [ch, ch_self n, ch_gt n (n + 1) (by omega)]

theorem ch_mul : ∀ (n k : Nat), (k + 1) * ch (n + 1) (k + 1) = (n + 1) * ch n k
  | 0, 0 => rfl
  | 0, k + 1 => by
    have e : ch (0 + 1) (k + 1 + 1) = ch 0 (k + 1) + ch 0 (k + 2) := rfl
    rw [e, ch_gt 0 (k + 1) (by omega), ch_gt 0 (k + 2) (by omega)]
    simp
  | n + 1, 0 => by
    have := ch_mul n 0
    have e : ch (n + 1 + 1) (0 + 1) = ch (n + 1) 0 + ch (n + 1) (0 + 1) := rfl
    have e0 : ∀ m, ch m 0 = 1 := fun m => by cases m <;> rfl
    rw [e, e0]
    rw [e0] at this
    omega
  | n + 1, k + 1 => by
    have h1 := ch_mul n k
    have h2 := ch_mul n (k + 1)
    have e : ch (n + 1) (k + 1) = ch n k + ch n (k + 1) := rfl
    have e2 : ch (n + 1 + 1) (k + 1 + 1) = ch (n + 1) (k + 1) + ch (n + 1) (k + 1 + 1) := rfl
    rw [e2]
    generalize ch (n + 1) (k + 1 + 1) = z at *
    generalize ch (n + 1) (k + 1) = t at *
    generalize ch n k = x at *
    generalize ch n (k + 1) = y at *
    grind

theorem pr_ch {p k : Nat} (hp : Pr p) (h0 : 0 < k) (h1 : k < p) : p ∣ ch p k := by
  obtain ⟨q, rfl⟩ : ∃ q, p = q + 1 := ⟨p - 1, by have := hp.1; omega⟩
  obtain ⟨j, rfl⟩ : ∃ j, k = j + 1 := ⟨k - 1, by omega⟩
  have h := ch_mul q j
  have hd : q + 1 ∣ (j + 1) * ch (q + 1) (j + 1) := ⟨_, h⟩
  rcases hp.dvd_mul hd with h | h
  · have := Nat.le_of_dvd (by omega) h; omega
  · exact h

/-- The sum of the first m terms of (a+1)^n. -/
def bsum (a n : Nat) : Nat → Nat
  | 0 => 0
  | m + 1 => bsum a n m + ch n m * a ^ m

theorem bsum_step (a n : Nat) : ∀ m, bsum a (n + 1) (m + 1) = a * bsum a n m + bsum a n (m + 1)
  | 0 => by simp [bsum, ch]
  | m + 1 => by
    have ih := bsum_step a n m
    have e1 : bsum a (n + 1) (m + 1 + 1) = bsum a (n + 1) (m + 1) + ch (n + 1) (m + 1) * a ^ (m + 1) := rfl
    have e2 : bsum a n (m + 1 + 1) = bsum a n (m + 1) + ch n (m + 1) * a ^ (m + 1) := rfl
    have e3 : bsum a n (m + 1) = bsum a n m + ch n m * a ^ m := rfl
    rw [e1, ih, e2]
    have e4 : ch (n + 1) (m + 1) = ch n m + ch n (m + 1) := rfl
    rw [e4, Nat.add_mul]
    have e5 : a * bsum a n (m + 1) = a * bsum a n m + ch n m * a ^ (m + 1) := by
      rw [e3, Nat.mul_add, Nat.pow_succ]
      congr 1
      rw [← Nat.mul_assoc, Nat.mul_comm a, Nat.mul_assoc, Nat.mul_comm a]
    rw [e5]
    omega

theorem bsum_all (a : Nat) : ∀ n, bsum a n (n + 1) = (a + 1) ^ n
  | 0 => by simp [bsum, ch]
  | n + 1 => by
    rw [bsum_step a n (n + 1)]
    have e : bsum a n (n + 1 + 1) = bsum a n (n + 1) := by
      show bsum a n (n + 1) + ch n (n + 1) * a ^ (n + 1) = _
      rw [ch_gt n (n + 1) (by omega)]; simp
    rw [e, bsum_all a n, Nat.pow_succ, Nat.mul_add, Nat.mul_comm a]; omega

theorem bsum_mod {p : Nat} (hp : Pr p) (a : Nat) : ∀ m, m < p → bsum a p (m + 1) % p = 1 % p
  | 0, _ => by simp [bsum, ch]
  | m + 1, h => by
    show (bsum a p (m + 1) + ch p (m + 1) * a ^ (m + 1)) % p = _
    obtain ⟨c, hc⟩ := pr_ch hp (show 0 < m + 1 by omega) h
    rw [hc, Nat.mul_assoc, Nat.add_mul_mod_self_left]
    exact bsum_mod hp a m (by omega)

theorem fermat {p : Nat} (hp : Pr p) : ∀ a, a ^ p % p = a % p
  | 0 => by have := hp.1; rw [Nat.zero_pow (by omega)]
  | a + 1 => by
    rw [← bsum_all a p]
    show (bsum a p p + ch p p * a ^ p) % p = _
    obtain ⟨q, hq⟩ : ∃ q, p = q + 1 := ⟨p - 1, by have := hp.1; omega⟩
    have h := bsum_mod hp a q (by omega)
    have e : bsum a p p = bsum a p (q + 1) := by rw [← hq]
    rw [e, ch_self, Nat.one_mul, Nat.add_mod, h, fermat hp a, ← Nat.add_mod, Nat.add_comm]

theorem dvd_sub_mod {p a b : Nat} (h : b ≤ a) (e : a % p = b % p) : p ∣ a - b := by
  have h1 := Nat.div_add_mod a p
  have h2 := Nat.div_add_mod b p
  refine ⟨a / p - b / p, ?_⟩
  rw [Nat.mul_sub]
  omega

theorem fermat1 {p a : Nat} (hp : Pr p) (ha : ¬ p ∣ a) : a ^ (p - 1) % p = 1 := by
  have h := fermat hp a
  have h2 := hp.1
  have e : a ^ p = a * a ^ (p - 1) := by
    rw [Nat.mul_comm, ← Nat.pow_succ]; congr 1; omega
  have hd : p ∣ a * (a ^ (p - 1) - 1) := by
    have : a ^ p - a = a * (a ^ (p - 1) - 1) := by rw [e, Nat.mul_sub, Nat.mul_one]
    rw [← this]
    have hle : a ≤ a ^ p := Nat.le_self_pow (by omega) a
    exact (dvd_sub_mod hle h)
  rcases hp.dvd_mul hd with h' | h'
  · exact absurd h' ha
  · have hpos : 1 ≤ a ^ (p - 1) := Nat.pow_pos (Nat.pos_of_ne_zero (by rintro rfl; exact ha (Nat.dvd_zero p)))
    obtain ⟨c, hc⟩ := h'
    have : a ^ (p - 1) = 1 + p * c := by omega
    rw [this, Nat.add_mul_mod_self_left, Nat.mod_eq_of_lt (by omega)]

/-! Powers modulo a number, reckoned; Pocklington's test. -/
/-- a to the e, times b, modulo n: by the bits of e; k: steps enough. -/
def pm (n : Nat) : Nat → Nat → Nat → Nat → Nat
  | 0, _, _, b => b
  | k + 1, a, e, b => pm n k (a * a % n) (e / 2) (if e % 2 = 0 then b else b * a % n)

theorem pm_eq (n : Nat) : ∀ (k a e b : Nat), e < 2 ^ k → pm n k a e b % n = b * a ^ e % n
  | 0, a, e, b, h => by
    have : e = 0 := by simp at h; omega
    subst this; simp [pm]
  | k + 1, a, e, b, h => by
    have hk : e / 2 < 2 ^ k := by rw [Nat.pow_succ] at h; omega
    rw [pm, pm_eq n k _ _ _ hk]
    have h2 : (a * a % n) ^ (e / 2) % n = (a ^ (2 * (e / 2))) % n := by
      rw [← Nat.pow_mod, Nat.pow_mul, Nat.pow_two]
    rw [Nat.mul_mod, h2]
    split
    · rename_i h0
      have : 2 * (e / 2) = e := by omega
      rw [this, ← Nat.mul_mod]
    · rename_i h0
      have e1 : e = 2 * (e / 2) + 1 := by omega
      have : a ^ e = a ^ (2 * (e / 2)) * a := by rw [← Nat.pow_succ]; exact congrArg (a ^ ·) e1
      rw [this, Nat.mod_mod, ← Nat.mul_mod]
      congr 1
      rw [Nat.mul_assoc, Nat.mul_comm a]

theorem pow_gcd {r b : Nat} : ∀ (k m n : Nat), m + n ≤ k → b ^ m % r = 1 → b ^ n % r = 1 → b ^ (Nat.gcd m n) % r = 1 := by
  have key : ∀ m n, m ≤ n → b ^ m % r = 1 → b ^ n % r = 1 → b ^ (n - m) % r = 1 := by
    intro m n h h1 h2
    have e : b ^ n = b ^ (n - m) * b ^ m := by rw [← Nat.pow_add]; congr 1; omega
    rw [e, Nat.mul_mod, h1, Nat.mul_one, Nat.mod_mod] at h2
    exact h2
  intro k
  induction k with
  | zero => intro m n h h1 h2; obtain rfl : m = 0 := by omega
            obtain rfl : n = 0 := by omega
            exact h1
  | succ k ih =>
    intro m n h h1 h2
    by_cases h0 : m = 0
    · subst h0; rw [Nat.gcd_zero_left]; exact h2
    by_cases h0' : n = 0
    · subst h0'; rw [Nat.gcd_zero_right]; exact h1
    by_cases hle : m ≤ n
    · have := ih m (n - m) (by omega) h1 (key m n hle h1 h2)
      rwa [Nat.gcd_sub_self_right hle] at this
    · have := ih (m - n) n (by omega) (key n m (by omega) h2 h1) h2
      rwa [Nat.gcd_sub_self_left (by omega)] at this

/-- Of each prime divisor r of n the number r - 1 is a multiple of the prime q. -/
theorem pock {n q R a r : Nat} (hq : Pr q) (hn : n = q * R + 1) (h1 : pm n 300 a (q * R) 1 % n = 1) (hb : q * R < 2 ^ 300)
    (h2 : Nat.gcd (pm n 300 a R 1 + (n - 1)) n = 1) (hR : R < 2 ^ 300) (hr : Pr r) (hrn : r ∣ n) : q ∣ r - 1 := by
  rw [pm_eq n 300 a (q * R) 1 hb, Nat.one_mul] at h1
  have h3 := pm_eq n 300 a R 1 hR
  rw [Nat.one_mul] at h3
  generalize pm n 300 a R 1 = z at *
  obtain ⟨c, hc⟩ := hrn
  have hr2 := hr.1
  have m1 : ∀ x y : Nat, x % n = y % n → x % r = y % r := by
    intro x y h
    have := congrArg (· % r) h
    simpa [hc, Nat.mod_mul_right_mod] using this
  have h4 : a ^ (q * R) % r = 1 := by
    have := m1 (a ^ (q * R)) 1 (by rw [h1, Nat.mod_eq_of_lt]; rcases Nat.eq_zero_or_pos R with h | h
                                   · subst h; simp at hn; subst hn; simp at h1
                                   · have := Nat.mul_le_mul hq.1 h; omega)
    rw [this, Nat.mod_eq_of_lt (by omega)]
  have h5 := m1 _ _ h3
  by_cases hcop : q ∣ r - 1
  · exact hcop
  exfalso
  have hra : ¬ r ∣ a ^ R := by
    intro hd
    have : r ∣ a ^ (q * R) := by rw [Nat.mul_comm, Nat.pow_mul]; exact Nat.dvd_trans hd (Nat.dvd_of_pow_dvd (Nat.le_of_lt hq.1) (Nat.dvd_refl _))
    have := Nat.mod_eq_zero_of_dvd this
    omega
  have h6 := fermat1 hr hra
  have h7 : (a ^ R) ^ q % r = 1 := by rw [← Nat.pow_mul, Nat.mul_comm R]; exact h4
  have h8 := pow_gcd _ _ _ (Nat.le_refl _) h7 h6
  rw [hq.cop hcop, Nat.pow_one, ← h5] at h8
  have h9 : r ∣ z + (n - 1) := by
    have e : z + (n - 1) + 1 = z + r * c := by omega
    have : (z + (n - 1) + 1) % r = 1 := by rw [e, Nat.add_mul_mod_self_left]; exact h8
    apply Nat.dvd_of_mod_eq_zero
    have h10 := Nat.add_mod (z + (n - 1)) 1 r
    rw [this] at h10
    have hlt := Nat.mod_lt (z + (n - 1)) (show 0 < r by omega)
    rw [Nat.mod_eq_of_lt (show 1 < r by omega)] at h10
    by_cases hh : (z + (n - 1)) % r + 1 < r
    · rw [Nat.mod_eq_of_lt hh] at h10; omega
    · have : (z + (n - 1)) % r + 1 = r := by omega
      rw [this, Nat.mod_self] at h10; omega
  have := Nat.dvd_gcd h9 ⟨c, hc⟩
  rw [h2] at this
  have := Nat.le_of_dvd (by omega) this
  omega

/-- Pocklington's test by one prime q. -/
theorem pock1 {n q R : Nat} (a : Nat) (hq : Pr q) (hn : n = q * R + 1) (h1 : pm n 300 a (q * R) 1 % n = 1) (hb : q * R < 2 ^ 300)
    (h2 : Nat.gcd (pm n 300 a R 1 + (n - 1)) n = 1) (hR : R < 2 ^ 300) (hs : n < (q + 1) * (q + 1)) (hn2 : 2 ≤ n) : Pr n := by
  apply Classical.byContradiction
  intro hc
  obtain ⟨r, hr, hrn, hle⟩ := small_pr hn2 hc
  have hd := pock hq hn h1 hb h2 hR hr hrn
  have := Nat.le_of_dvd (by have := hr.1; omega) hd
  have hr2 := hr.1
  have := Nat.mul_le_mul (show q + 1 ≤ r by omega) (show q + 1 ≤ r by omega)
  omega

theorem dvd_two {q q' x : Nat} (hq : Pr q) (hq' : Pr q') (hne : q ≠ q') (h1 : q ∣ x) (h2 : q' ∣ x) : q * q' ∣ x := by
  obtain ⟨c, rfl⟩ := h1
  rcases hq'.dvd_mul h2 with h | h
  · rcases hq.2 _ h with e | e
    · have := hq'.1; omega
    · exact absurd e.symm hne
  · obtain ⟨d, rfl⟩ := h
    exact ⟨d, (Nat.mul_assoc _ _ _).symm⟩

/-- Pocklington's test by two primes. -/
theorem pock2 {n q R q' R' : Nat} (a : Nat) (hq : Pr q) (hq' : Pr q') (hne : q ≠ q') (hn : n = q * R + 1) (hn' : n = q' * R' + 1) (h1 : pm n 300 a (q * R) 1 % n = 1) (hb : q * R < 2 ^ 300)
    (h2 : Nat.gcd (pm n 300 a R 1 + (n - 1)) n = 1) (hR : R < 2 ^ 300) (h2' : Nat.gcd (pm n 300 a R' 1 + (n - 1)) n = 1) (hR' : R' < 2 ^ 300)
    (hs : n < (q * q' + 1) * (q * q' + 1)) (hn2 : 2 ≤ n) : Pr n := by
  apply Classical.byContradiction
  intro hc
  obtain ⟨r, hr, hrn, hle⟩ := small_pr hn2 hc
  have hd := pock hq hn h1 hb h2 hR hr hrn
  have hd' := pock hq' hn' (by have : q' * R' = q * R := by omega
                               rw [this]; exact h1) (by omega) h2' hR' hr hrn
  have := Nat.le_of_dvd (by have := hr.1; omega) (dvd_two hq hq' hne hd hd')
  have hr2 := hr.1
  have := Nat.mul_le_mul (show q * q' + 1 ≤ r by omega) (show q * q' + 1 ≤ r by omega)
  omega

/-- No number from k to m + k - 1 divides n. -/
def nodiv (n : Nat) : Nat → Nat → Bool
  | 0, _ => true
  | m + 1, k => n % k != 0 && nodiv n m (k + 1)

theorem nodiv_eq (n : Nat) : ∀ (m k : Nat), nodiv n m k = true → ∀ d, k ≤ d → d < m + k → ¬ d ∣ n
  | 0, k, _, d, h1, h2 => by omega
  | m + 1, k, h, d, h1, h2 => by
    rw [nodiv, Bool.and_eq_true] at h
    by_cases e : d = k
    · subst e; intro hd; have := Nat.mod_eq_zero_of_dvd hd; simp [this] at h
    · exact nodiv_eq n m (k + 1) h.2 d (by omega) (by omega)

theorem trial {n m : Nat} (h : nodiv n m 2 = true) (hs : n < (m + 2) * (m + 2)) (h2 : 2 ≤ n) : Pr n := by
  apply Classical.byContradiction
  intro hc
  obtain ⟨r, hr, hrn, hle⟩ := small_pr h2 hc
  have := nodiv_eq n m 2 h r hr.1
  by_cases hlt : r < m + 2
  · exact this hlt hrn
  · have := Nat.mul_le_mul (show m + 2 ≤ r by omega) (show m + 2 ≤ r by omega)
    omega

theorem pr_8574133 : Pr 8574133 := trial (m := 2929) (by decide +kernel) (by decide) (by decide)
theorem pr_127 : Pr 127 := trial (m := 12) (by decide +kernel) (by decide) (by decide)
theorem pr_1919519569386763 : Pr 1919519569386763 :=
  pock2 (q := 8574133) (R := 223873314) (q' := 127) (R' := 15114327318006) 2 pr_8574133 pr_127 (by decide +kernel) (by decide +kernel) (by decide +kernel) (by decide +kernel) (by decide +kernel) (by decide +kernel) (by decide +kernel) (by decide +kernel) (by decide +kernel) (by decide +kernel) (by decide +kernel)
theorem pr_569003 : Pr 569003 := trial (m := 755) (by decide +kernel) (by decide) (by decide)
theorem pr_2773320623 : Pr 2773320623 :=
  pock1 (q := 569003) (R := 4874) 2 pr_569003 (by decide +kernel) (by decide +kernel) (by decide +kernel) (by decide +kernel) (by decide +kernel) (by decide +kernel) (by decide +kernel)
theorem pr_72106336199 : Pr 72106336199 :=
  pock1 (q := 2773320623) (R := 26) 2 pr_2773320623 (by decide +kernel) (by decide +kernel) (by decide +kernel) (by decide +kernel) (by decide +kernel) (by decide +kernel) (by decide +kernel)
theorem pr_75445702479781427272750846543864801 : Pr 75445702479781427272750846543864801 :=
  pock2 (q := 1919519569386763) (R := 39304471641247389600) (q' := 72106336199) (R' := 1046311689884858398375200) 2 pr_1919519569386763 pr_72106336199 (by decide +kernel) (by decide +kernel) (by decide +kernel) (by decide +kernel) (by decide +kernel) (by decide +kernel) (by decide +kernel) (by decide +kernel) (by decide +kernel) (by decide +kernel) (by decide +kernel)
theorem pr_430751 : Pr 430751 := trial (m := 657) (by decide +kernel) (by decide) (by decide)
theorem pr_4153 : Pr 4153 := trial (m := 65) (by decide +kernel) (by decide) (by decide)
theorem pr_31757755568855353 : Pr 31757755568855353 :=
  pock2 (q := 430751) (R := 73726481352) (q' := 4153) (R' := 7646943310584) 2 pr_430751 pr_4153 (by decide +kernel) (by decide +kernel) (by decide +kernel) (by decide +kernel) (by decide +kernel) (by decide +kernel) (by decide +kernel) (by decide +kernel) (by decide +kernel) (by decide +kernel) (by decide +kernel)
theorem pr_74058212732561358302231226437062788676166966415465897661863160754340907 : Pr 74058212732561358302231226437062788676166966415465897661863160754340907 :=
  pock2 (q := 75445702479781427272750846543864801) (R := 981609426360740691344999861639072106) (q' := 31757755568855353) (R' := 2331972502653487852620185443007392165117953542933313402) 2 pr_75445702479781427272750846543864801 pr_31757755568855353 (by decide +kernel) (by decide +kernel) (by decide +kernel) (by decide +kernel) (by decide +kernel) (by decide +kernel) (by decide +kernel) (by decide +kernel) (by decide +kernel) (by decide +kernel) (by decide +kernel)
theorem pr_P : Pr 57896044618658097711785492504343953926634992332820282019728792003956564819949 :=
  pock1 (q := 74058212732561358302231226437062788676166966415465897661863160754340907) (R := 781764) 2 pr_74058212732561358302231226437062788676166966415465897661863160754340907 (by decide +kernel) (by decide +kernel) (by decide +kernel) (by decide +kernel) (by decide +kernel) (by decide +kernel) (by decide +kernel)
theorem pr_1224481 : Pr 1224481 := trial (m := 1107) (by decide +kernel) (by decide) (by decide)
theorem pr_531581 : Pr 531581 := trial (m := 730) (by decide +kernel) (by decide) (by decide)
theorem pr_1257559732178653 : Pr 1257559732178653 :=
  pock2 (q := 1224481) (R := 1027014492) (q' := 531581) (R' := 2365697292) 2 pr_1224481 pr_531581 (by decide +kernel) (by decide +kernel) (by decide +kernel) (by decide +kernel) (by decide +kernel) (by decide +kernel) (by decide +kernel) (by decide +kernel) (by decide +kernel) (by decide +kernel) (by decide +kernel)
theorem pr_4434155615661930479 : Pr 4434155615661930479 :=
  pock1 (q := 1257559732178653) (R := 3526) 2 pr_1257559732178653 (by decide +kernel) (by decide +kernel) (by decide +kernel) (by decide +kernel) (by decide +kernel) (by decide +kernel) (by decide +kernel)
theorem pr_172054593956031949258510691 : Pr 172054593956031949258510691 :=
  pock1 (q := 4434155615661930479) (R := 38802110) 2 pr_4434155615661930479 (by decide +kernel) (by decide +kernel) (by decide +kernel) (by decide +kernel) (by decide +kernel) (by decide +kernel) (by decide +kernel)
theorem pr_19757330305831588566944191468367130476339 : Pr 19757330305831588566944191468367130476339 :=
  pock1 (q := 172054593956031949258510691) (R := 114831751082918) 2 pr_172054593956031949258510691 (by decide +kernel) (by decide +kernel) (by decide +kernel) (by decide +kernel) (by decide +kernel) (by decide +kernel) (by decide +kernel)
theorem pr_276602624281642239937218680557139826668747 : Pr 276602624281642239937218680557139826668747 :=
  pock1 (q := 19757330305831588566944191468367130476339) (R := 14) 2 pr_19757330305831588566944191468367130476339 (by decide +kernel) (by decide +kernel) (by decide +kernel) (by decide +kernel) (by decide +kernel) (by decide +kernel) (by decide +kernel)
theorem pr_L : Pr 7237005577332262213973186563042994240857116359379907606001950938285454250989 :=
  pock1 (q := 276602624281642239937218680557139826668747) (R := 26163907866482859529727157400808004) 2 pr_276602624281642239937218680557139826668747 (by decide +kernel) (by decide +kernel) (by decide +kernel) (by decide +kernel) (by decide +kernel) (by decide +kernel) (by decide +kernel)

end Mth
