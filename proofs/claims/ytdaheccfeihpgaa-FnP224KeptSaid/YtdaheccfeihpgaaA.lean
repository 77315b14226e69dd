/-
  The plain law: the prime, the field, the curve.
-/
namespace Go.Proofs.Ytdaheccfeihpgaa.Nm

def IsPrime (p : Nat) : Prop := 2 ≤ p ∧ ∀ d, d ∣ p → d = 1 ∨ d = p

theorem IsPrime.coprime {p : Nat} (hp : IsPrime p) {a : Nat} (h : ¬ p ∣ a) : Nat.Coprime p a := by
  rcases hp.2 _ (Nat.gcd_dvd_left p a) with h1 | h1
  · exact h1
  · exact absurd (h1 ▸ Nat.gcd_dvd_right p a) h

theorem IsPrime.dvd_mul {p : Nat} (hp : IsPrime p) {a b : Nat} (h : p ∣ a * b) : p ∣ a ∨ p ∣ b := by
  by_cases ha : p ∣ a
  · exact .inl ha
  · exact .inr ((hp.coprime ha).dvd_of_dvd_mul_left h)

theorem exists_prime_dvd : ∀ n : Nat, 2 ≤ n → ∃ r, IsPrime r ∧ r ∣ n := by
  intro n
  induction n using Nat.strongRecOn with
  | _ n ih =>
    intro h2
    by_cases hp : IsPrime n
    · exact ⟨n, hp, Nat.dvd_refl n⟩
    · have : ∃ d, d ∣ n ∧ d ≠ 1 ∧ d ≠ n := by
        apply Classical.byContradiction
        intro hc
        apply hp
        refine ⟨h2, fun d hd => ?_⟩
        apply Classical.byContradiction
        intro hc'
        exact hc ⟨d, hd, fun e => hc' (.inl e), fun e => hc' (.inr e)⟩
      obtain ⟨d, hd, h1, hn⟩ := this
      have hle : d ≤ n := Nat.le_of_dvd (by omega) hd
      have hd0 : d ≠ 0 := by
        rintro rfl
        have := Nat.eq_zero_of_zero_dvd hd
        omega
      obtain ⟨r, hr, hrd⟩ := ih d (by omega) (by omega)
      exact ⟨r, hr, Nat.dvd_trans hrd hd⟩

theorem exists_prime_sq {n : Nat} (h2 : 2 ≤ n) (hp : ¬ IsPrime n) : ∃ r, IsPrime r ∧ r ∣ n ∧ r * r ≤ n := by
  have : ∃ d, d ∣ n ∧ d ≠ 1 ∧ d ≠ n := by
    apply Classical.byContradiction
    intro hc
    apply hp
    refine ⟨h2, fun d hd => ?_⟩
    apply Classical.byContradiction
    intro hc'
    exact hc ⟨d, hd, fun e => hc' (.inl e), fun e => hc' (.inr e)⟩
  obtain ⟨d, ⟨e, he⟩, h1, hn⟩ := this
  have hd0 : d ≠ 0 := by rintro rfl; simp at he; omega
  have he0 : e ≠ 0 := by rintro rfl; simp at he; omega
  have he1 : e ≠ 1 := by rintro rfl; simp at he; omega
  rcases Nat.le_total d e with h | h
  · obtain ⟨r, hr, hrd⟩ := exists_prime_dvd d (by omega)
    have hrle : r ≤ d := Nat.le_of_dvd (by omega) hrd
    exact ⟨r, hr, Nat.dvd_trans hrd ⟨e, he⟩, by rw [he]; exact Nat.mul_le_mul hrle (Nat.le_trans hrle h)⟩
  · obtain ⟨r, hr, hrd⟩ := exists_prime_dvd e (by omega)
    have hrle : r ≤ e := Nat.le_of_dvd (by omega) hrd
    exact ⟨r, hr, Nat.dvd_trans hrd ⟨d, by rw [he, Nat.mul_comm]⟩, by rw [he]; exact Nat.mul_le_mul (Nat.le_trans hrle h) hrle⟩

/-- Binomial coefficients. -/
def ch : Nat → Nat → Nat
  | _, 0 => 1
  | 0, _ + 1 => 0
  | n + 1, k + 1 => ch n k + ch n (k + 1)

theorem succ_mul_ch (n k : Nat) : (k + 1) * ch (n + 1) (k + 1) = (n + 1) * ch n k := by
  induction n generalizing k with
  | zero =>
    cases k with
    | zero => simp [ch]
    | succ k => simp [ch]
  | succ n ih =>
    cases k with
    | zero =>
      have := ih 0
      simp only [ch, Nat.zero_add, Nat.one_mul, Nat.mul_one] at this ⊢
      omega
    | succ k =>
      have h1 := ih k
      have h2 := ih (k + 1)
      rw [ch]
      have h3 : ch (n + 1) (k + 1) = ch n k + ch n (k + 1) := by rw [ch]
      grind

theorem ch_gt (n k : Nat) (h : n < k) : ch n k = 0 := by
  induction n generalizing k with
  | zero =>
    cases k with
    | zero => omega
    | succ k => rfl
  | succ n ih =>
    cases k with
    | zero => omega
    | succ k => rw [ch, ih k (by omega), ih (k + 1) (by omega)]

theorem ch_self (n : Nat) : ch n n = 1 := by
  induction n with
  | zero => rfl
  | succ n ih => rw [ch, ih, ch_gt n (n + 1) (by omega)]

def binSum (n a : Nat) : Nat → Nat
  | 0 => 0
  | m + 1 => binSum n a m + ch n m * a ^ m

theorem binSum_succ (n a m : Nat) : binSum (n + 1) a (m + 1) = binSum n a (m + 1) + a * binSum n a m := by
  induction m with
  | zero => simp [binSum, ch]
  | succ m ih =>
    rw [binSum, ih, binSum, ch]
    simp only [binSum]
    grind

theorem binom (n a : Nat) : (a + 1) ^ n = binSum n a (n + 1) := by
  induction n with
  | zero => simp [binSum, ch]
  | succ n ih =>
    rw [binSum_succ, Nat.pow_succ, ih]
    have : binSum n a (n + 1 + 1) = binSum n a (n + 1) := by
      rw [binSum, ch_gt n (n + 1) (by omega)]; simp
    rw [this]; grind

theorem IsPrime.dvd_ch {p : Nat} (hp : IsPrime p) {k : Nat} (h0 : 0 < k) (hk : k < p) : p ∣ ch p k := by
  obtain ⟨k, rfl⟩ : ∃ j, k = j + 1 := ⟨k - 1, by omega⟩
  obtain ⟨q, rfl⟩ : ∃ q, p = q + 1 := ⟨p - 1, by omega⟩
  have h := succ_mul_ch q k
  have hd : (q + 1) ∣ (k + 1) * ch (q + 1) (k + 1) := ⟨_, h⟩
  rcases hp.dvd_mul hd with h | h
  · have := Nat.le_of_dvd (by omega) h
    omega
  · exact h

theorem IsPrime.binSum_mod {p : Nat} (hp : IsPrime p) (a m : Nat) (h0 : 0 < m) (hm : m ≤ p) : binSum p a m % p = 1 % p := by
  induction m with
  | zero => omega
  | succ m ih =>
    cases m with
    | zero => simp [binSum, ch]
    | succ m =>
      rw [binSum, Nat.add_mod, ih (by omega) (by omega)]
      obtain ⟨c, hc⟩ := hp.dvd_ch (k := m + 1) (by omega) (by omega)
      rw [hc, Nat.mul_assoc, Nat.mul_mod_right]
      simp

theorem IsPrime.fermat {p : Nat} (hp : IsPrime p) (a : Nat) : a ^ p % p = a % p := by
  have h2 := hp.1
  induction a with
  | zero => rw [Nat.zero_pow (by omega)]
  | succ a ih =>
    rw [binom, binSum, ch_self, Nat.one_mul, Nat.add_mod, hp.binSum_mod a p (by omega) (Nat.le_refl _), ih, ← Nat.add_mod, Nat.add_comm]

theorem dvd_sub_of_mod {p a b : Nat} (h : a % p = b % p) : p ∣ a - b := Nat.dvd_of_mod_eq_zero (Nat.sub_mod_eq_zero_of_mod_eq h)

theorem mod_of_dvd_sub {p a b : Nat} (hle : b ≤ a) (h : p ∣ a - b) : a % p = b % p := by
  obtain ⟨c, hc⟩ := h
  have : a = b + p * c := by omega
  rw [this, Nat.add_mul_mod_self_left]

theorem IsPrime.fermat' {p : Nat} (hp : IsPrime p) {a : Nat} (h : ¬ p ∣ a) : a ^ (p - 1) % p = 1 := by
  have h2 := hp.1
  have hf := hp.fermat a
  obtain ⟨q, rfl⟩ : ∃ q, p = q + 1 := ⟨p - 1, by omega⟩
  simp only [Nat.add_sub_cancel]
  have ha : 1 ≤ a ^ q := by
    apply Nat.one_le_pow
    rcases Nat.eq_zero_or_pos a with h0 | h0
    · subst h0; exact absurd (Nat.dvd_zero _) h
    · exact h0
  have hd : (q + 1) ∣ a * (a ^ q - 1) := by
    have : a * (a ^ q - 1) = a ^ (q + 1) - a := by rw [Nat.mul_sub, Nat.pow_succ, Nat.mul_comm, Nat.mul_one]
    rw [this]
    exact dvd_sub_of_mod hf
  rcases hp.dvd_mul hd with h' | h'
  · exact absurd h' h
  · rw [mod_of_dvd_sub ha h', Nat.mod_eq_of_lt (by omega)]

theorem pow_mod' (a n m : Nat) : (a % m) ^ n % m = a ^ n % m := (Nat.pow_mod a n m).symm

theorem pow_gcd_one {b r : Nat} (hr : 2 ≤ r) : ∀ m n : Nat, b ^ m % r = 1 → b ^ n % r = 1 → b ^ (Nat.gcd m n) % r = 1 := by
  intro m n
  induction m, n using Nat.gcd.induction with
  | H0 n => intro _ h; simpa using h
  | H1 m n hm ih =>
    intro h1 h2
    rw [Nat.gcd_rec]
    refine ih ?_ h1
    have e : b ^ n = (b ^ m) ^ (n / m) * b ^ (n % m) := by
      rw [← Nat.pow_mul, ← Nat.pow_add, Nat.div_add_mod]
    rw [e, Nat.mul_mod, Nat.pow_mod, h1, Nat.one_pow, Nat.mod_eq_of_lt (by omega : 1 < r), Nat.one_mul, Nat.mod_mod] at h2
    exact h2

theorem dvd_prime_pow {q : Nat} (hq : IsPrime q) : ∀ k g : Nat, g ∣ q ^ (k + 1) → ¬ g ∣ q ^ k → g = q ^ (k + 1) := by
  intro k
  induction k with
  | zero =>
    intro g h1 h2
    simp only [Nat.zero_add, Nat.pow_one, Nat.pow_zero] at *
    rcases hq.2 g h1 with h | h
    · exact absurd (h ▸ Nat.dvd_refl 1) h2
    · exact h
  | succ k ih =>
    intro g h1 h2
    by_cases hd : q ∣ g
    · obtain ⟨c, rfl⟩ := hd
      have hq0 : 0 < q := by have := hq.1; omega
      have e : c = q ^ (k + 1) := by
        apply ih
        · rw [Nat.pow_succ, Nat.mul_comm (q ^ (k + 1))] at h1
          exact Nat.dvd_of_mul_dvd_mul_left hq0 h1
        · intro hc
          apply h2
          rw [Nat.pow_succ, Nat.mul_comm (q ^ k)]
          exact Nat.mul_dvd_mul_left q hc
      rw [e, Nat.pow_succ _ (k + 1), Nat.mul_comm]
    · exfalso
      apply h2
      have hc := hq.coprime hd
      rw [Nat.pow_succ] at h1
      exact hc.symm.dvd_of_dvd_mul_right h1

theorem order_dvd {r q b k : Nat} (hr : IsPrime r) (hq : IsPrime q) (hb : ¬ r ∣ b) (h1 : b ^ (q ^ (k + 1)) % r = 1) (h2 : b ^ (q ^ k) % r ≠ 1) : q ^ (k + 1) ∣ r - 1 := by
  have hf := hr.fermat' hb
  have hg := pow_gcd_one hr.1 _ _ h1 hf
  have hd1 : Nat.gcd (q ^ (k + 1)) (r - 1) ∣ q ^ (k + 1) := Nat.gcd_dvd_left _ _
  have e := dvd_prime_pow hq k _ hd1 (by
    rintro ⟨c, hc⟩
    apply h2
    rw [hc, Nat.pow_mul, Nat.pow_mod, hg, Nat.one_pow, Nat.mod_eq_of_lt (by have := hr.1; omega)])
  have := Nat.gcd_dvd_right (q ^ (k + 1)) (r - 1)
  rw [e] at this
  exact this

/-- Powers modulo n by repeated squaring. -/
def pm (n : Nat) : Nat → Nat → Nat → Nat
  | 0, _, _ => 1 % n
  | f + 1, a, e => if e % 2 = 1 then a * pm n f (a * a % n) (e / 2) % n else pm n f (a * a % n) (e / 2)

theorem pm_eq (n : Nat) : ∀ f a e : Nat, e < 2 ^ f → pm n f a e = a ^ e % n := by
  intro f
  induction f with
  | zero => intro a e h; simp at h; subst h; simp [pm]
  | succ f ih =>
    intro a e h
    have h' : e / 2 < 2 ^ f := by rw [Nat.pow_succ] at h; omega
    have e2 : pm n f (a * a % n) (e / 2) = a ^ (2 * (e / 2)) % n := by
      rw [ih _ _ h', ← Nat.pow_mod, Nat.pow_mul, Nat.pow_two]
    rw [pm, e2]
    split
    · rename_i ho
      rw [Nat.mul_mod, Nat.mod_mod, ← Nat.mul_mod]
      congr 1
      have : e = 2 * (e / 2) + 1 := by omega
      conv => rhs; rw [this, Nat.pow_succ, Nat.mul_comm]
    · rename_i ho
      have : e = 2 * (e / 2) := by omega
      conv => rhs; rw [this]

def p224 : Nat := 26959946667150639794667015087019630673557916260026308143510066298881

theorem prime2 : IsPrime 2 := ⟨by omega, fun d hd => by
  have := Nat.le_of_dvd (by omega) hd
  have : d ≠ 0 := by rintro rfl; have := Nat.eq_zero_of_zero_dvd hd; omega
  omega⟩

theorem prime_of_no_small {n m : Nat} (h2 : 2 ≤ n) (hm : n < m * m) (h : ∀ d, d < m → 2 ≤ d → n % d ≠ 0) : IsPrime n := by
  apply Classical.byContradiction
  intro hn
  obtain ⟨r, hr, hd, hs⟩ := exists_prime_sq h2 hn
  have : r < m := by
    apply Classical.byContradiction
    intro hc
    have := Nat.mul_le_mul (Nat.le_of_not_lt hc) (Nat.le_of_not_lt hc)
    omega
  exact h r this hr.1 (Nat.mod_eq_zero_of_dvd hd)

def noDiv (n : Nat) : Nat → Bool
  | 0 => true
  | d + 1 => (d < 2 || n % d != 0) && noDiv n d

theorem noDiv_spec (n : Nat) : ∀ m, noDiv n m = true → ∀ d, d < m → 2 ≤ d → n % d ≠ 0 := by
  intro m
  induction m with
  | zero => intro _ d h; omega
  | succ m ih =>
    intro h d hd h2
    simp only [noDiv, Bool.and_eq_true, Bool.or_eq_true, decide_eq_true_eq, bne_iff_ne] at h
    by_cases e : d = m
    · subst e; rcases h.1 with h1 | h1
      · omega
      · exact h1
    · exact ih h.2 d (by omega) h2

theorem prime65537 : IsPrime 65537 := prime_of_no_small (m := 257) (by omega) (by omega) (noDiv_spec 65537 257 (by decide +kernel))

theorem mod_of_mod_dvd {a r n : Nat} (hd : r ∣ n) {c : Nat} (h : a % n = c) : a % r = c % r := by
  rw [← h, Nat.mod_mod_of_dvd a hd]

theorem order_of_cert {N r q k a m E0 E1 x c : Nat} (hr : IsPrime r) (hd : r ∣ N) (hN : 1 < N) (hq : IsPrime q) (e0 : E0 = m * q ^ k) (e1 : E1 = m * q ^ (k + 1))
    (b0 : E0 < 2 ^ 224) (b1 : E1 < 2 ^ 224) (h1 : pm N 224 a E1 = 1) (h2 : pm N 224 a E0 = x) (h3 : (x + (N - 1)) * c % N = 1) : q ^ (k + 1) ∣ r - 1 := by
  have hr2 := hr.1
  rw [pm_eq N 224 _ _ b1] at h1
  rw [pm_eq N 224 _ _ b0] at h2
  have f1 := mod_of_mod_dvd hd h1
  have f2 := mod_of_mod_dvd hd h2
  rw [e1, Nat.pow_mul, Nat.mod_eq_of_lt hr2] at f1
  rw [e0, Nat.pow_mul] at f2
  have hb : ¬ r ∣ a ^ m := by
    intro h
    obtain ⟨w, hw⟩ := h
    have : (a ^ m) ^ q ^ (k + 1) % r = 0 := by
      rw [Nat.pow_mod, hw, Nat.mul_mod_right, Nat.zero_pow (Nat.pow_pos (by have := hq.1; omega)), Nat.zero_mod]
    omega
  refine order_dvd hr hq hb f1 ?_
  intro h
  rw [h] at f2
  have f3 := mod_of_mod_dvd hd h3
  rw [Nat.mod_eq_of_lt hr2] at f3
  have : r ∣ x + (N - 1) := by
    obtain ⟨w, rfl⟩ := hd
    apply Nat.dvd_of_mod_eq_zero
    have : 1 ≤ r * w := by omega
    rw [Nat.add_mod, ← f2]
    have e : 1 + (r * w - 1) % r = 1 % r + (r * w - 1) % r := by rw [Nat.mod_eq_of_lt hr2]
    rw [e, ← Nat.add_mod, show 1 + (r * w - 1) = r * w from by omega, Nat.mul_mod_right]
  obtain ⟨w, hw⟩ := this
  rw [hw, Nat.mul_assoc, Nat.mul_mod_right] at f3
  omega

theorem prime_p224 : IsPrime p224 := by
  apply Classical.byContradiction
  intro hn
  obtain ⟨r, hr, hd, hs⟩ := exists_prime_sq (by decide +kernel) hn
  have hr2 := hr.1
  have g1 : 2 ^ (95 + 1) ∣ r - 1 := order_of_cert (N := p224) (q := 2) (k := 95) (a := 11) (m := 340282366920938463463374607431768211455) (E0 := 13479973333575319897333507543509815336778958130013154071755033149440) (E1 := 26959946667150639794667015087019630673557916260026308143510066298880) (x := 26959946667150639794667015087019630673557916260026308143510066298880) (c := 13479973333575319897333507543509815336778958130013154071755033149440) hr hd (by decide +kernel) prime2
    (by decide +kernel) (by decide +kernel) (by decide +kernel) (by decide +kernel) (by decide +kernel) (by decide +kernel) (by decide +kernel)
  have g2 : 65537 ^ (0 + 1) ∣ r - 1 := order_of_cert (N := p224) (q := 65537) (k := 0) (a := 11) (m := 411369862324345633682759587515748823924774040008335873529610240) (E0 := 411369862324345633682759587515748823924774040008335873529610240) (E1 := 26959946667150639794667015087019630673557916260026308143510066298880) (x := 4665536676863262757565104124120064403521340920542740530129761614529) (c := 7843933020025280772550920879353157883065168129675168400450732845041) hr hd (by decide +kernel) prime65537
    (by decide +kernel) (by decide +kernel) (by decide +kernel) (by decide +kernel) (by decide +kernel) (by decide +kernel) (by decide +kernel)
  have hc : Nat.Coprime (2 ^ (95 + 1)) (65537 ^ (0 + 1)) := by decide +kernel
  have g3 := hc.mul_dvd_of_dvd_of_dvd g1 g2
  have hle := Nat.le_of_dvd (by omega) g3
  have hsq : (2 ^ (95 + 1) * 65537 ^ (0 + 1)) * (2 ^ (95 + 1) * 65537 ^ (0 + 1)) ≤ r * r := Nat.mul_le_mul (by omega) (by omega)
  have hlt : p224 < (2 ^ (95 + 1) * 65537 ^ (0 + 1)) * (2 ^ (95 + 1) * 65537 ^ (0 + 1)) := by decide +kernel
  omega

end Go.Proofs.Ytdaheccfeihpgaa.Nm

namespace Go.Proofs.Ytdaheccfeihpgaa.Nm

instance p224_ne : NeZero p224 := ⟨by decide +kernel⟩
abbrev F := Fin p224

def fpow (a : F) : Nat → F
  | 0 => 1
  | n + 1 => fpow a n * a

theorem one_lt_p : 1 < p224 := by decide +kernel

theorem fval_one : (1 : F).val = 1 := by decide +kernel
theorem fval_zero : (0 : F).val = 0 := by decide +kernel

theorem fpow_val (a : F) (n : Nat) : (fpow a n).val = a.val ^ n % p224 := by
  induction n with
  | zero => rw [fpow, fval_one, Nat.pow_zero, Nat.mod_eq_of_lt one_lt_p]
  | succ n ih => rw [fpow, Fin.val_mul, ih, Nat.pow_succ, Nat.mul_mod, Nat.mod_mod, ← Nat.mul_mod]

theorem fne_zero {a : F} (h : a ≠ 0) : ¬ p224 ∣ a.val := by
  intro hd
  apply h
  apply Fin.ext
  rw [fval_zero]
  rcases Nat.eq_zero_or_pos a.val with h0 | h0
  · exact h0
  · have := Nat.le_of_dvd h0 hd
    have := a.isLt
    omega

theorem fermatF {a : F} (h : a ≠ 0) : fpow a (p224 - 1) = 1 := by
  apply Fin.ext
  rw [fpow_val, prime_p224.fermat' (fne_zero h), fval_one]

theorem fermatF' (a : F) : fpow a p224 = a := by
  apply Fin.ext
  rw [fpow_val, prime_p224.fermat, Nat.mod_eq_of_lt a.isLt]

/-- The inverse, 0 of 0: a to the power of p - 2. -/
def finv (a : F) : F := fpow a (p224 - 2)

theorem p_sub : p224 - 1 = (p224 - 2) + 1 := by have := one_lt_p; omega

theorem mul_finv {a : F} (h : a ≠ 0) : a * finv a = 1 := by
  rw [← fermatF h, p_sub, fpow, finv]; grind

theorem fmul_ne {a b : F} (ha : a ≠ 0) (hb : b ≠ 0) : a * b ≠ 0 := by
  intro h
  apply hb
  have h1 := mul_finv ha
  have : b = (a * finv a) * b := by rw [h1]; grind
  rw [this]; grind

theorem fmul_eq_zero {a b : F} (h : a * b = 0) : a = 0 ∨ b = 0 := by
  by_cases ha : a = 0
  · exact .inl ha
  · by_cases hb : b = 0
    · exact .inr hb
    · exact absurd h (fmul_ne ha hb)

theorem fcancel {a x y : F} (ha : a ≠ 0) (h : a * x = a * y) : x = y := by
  have h1 := mul_finv ha
  have e1 : x = finv a * (a * x) := by grind
  have e2 : y = finv a * (a * y) := by grind
  rw [e1, e2, h]

theorem fpow_add (a : F) (m n : Nat) : fpow a (m + n) = fpow a m * fpow a n := by
  induction n with
  | zero => rw [Nat.add_zero, fpow]; grind
  | succ n ih => rw [← Nat.add_assoc, fpow, ih, fpow]; grind

theorem fpow_mul (a : F) (m n : Nat) : fpow a (m * n) = fpow (fpow a m) n := by
  induction n with
  | zero => rw [Nat.mul_zero, fpow, fpow]
  | succ n ih => rw [Nat.mul_succ, fpow_add, ih, fpow]

theorem fpow_sq (a : F) (n : Nat) : fpow a (2 * n) = fpow a n * fpow a n := by
  rw [Nat.two_mul, fpow_add]

theorem fpow_mul_base (a b : F) (n : Nat) : fpow (a * b) n = fpow a n * fpow b n := by
  induction n with
  | zero => rw [fpow, fpow, fpow]; grind
  | succ n ih => rw [fpow, ih, fpow, fpow]; grind

theorem fpow_one_base (n : Nat) : fpow 1 n = 1 := by
  induction n with
  | zero => rfl
  | succ n ih => rw [fpow, ih]; grind

theorem fpow_two (a : F) : fpow a 2 = a * a := by
  show 1 * a * a = a * a
  rw [Fin.one_mul]

theorem gev1 {n : Nat} [NeZero n] (r : Fin n) : 1 + 0 * r + 0 * (r * r) = 1 := by grind
theorem gevx {n : Nat} [NeZero n] (r : Fin n) : 0 + 1 * r + 0 * (r * r) = r := by grind

/-- The constant of the curve. -/
def cb : F := ⟨0xb4050a850c04b3abf54132565044b0b7d7bfd8ba270b39432355ffb4, by decide +kernel⟩

/-- Powers modulo X^3 - 3 X + b: three coefficients. -/
def tmul (s t : F × F × F) : F × F × F :=
  let c3 := s.2.1 * t.2.2 + s.2.2 * t.2.1
  let c4 := s.2.2 * t.2.2
  (s.1 * t.1 - c3 * cb, s.1 * t.2.1 + s.2.1 * t.1 + 3 * c3 - c4 * cb, s.1 * t.2.2 + s.2.1 * t.2.1 + s.2.2 * t.1 + 3 * c4)

def tev (r : F) (t : F × F × F) : F := t.1 + t.2.1 * r + t.2.2 * (r * r)

theorem tev_mul (r : F) (hr : r * r * r - 3 * r + cb = 0) (s t : F × F × F) : tev r (tmul s t) = tev r s * tev r t := by
  obtain ⟨a, b, c⟩ := s
  obtain ⟨d, e, f⟩ := t
  simp only [tev, tmul]
  generalize cb = k at *
  grind

def tpow : Nat → F × F × F → Nat → F × F × F
  | 0, _, _ => (1, 0, 0)
  | f + 1, t, e => if e % 2 = 1 then tmul t (tpow f (tmul t t) (e / 2)) else tpow f (tmul t t) (e / 2)

theorem tpow_ev (r : F) (hr : r * r * r - 3 * r + cb = 0) : ∀ f t e, e < 2 ^ f → tev r (tpow f t e) = fpow (tev r t) e := by
  intro f
  induction f with
  | zero => intro t e h; simp at h; subst h; simp only [tpow, tev, fpow]; exact gev1 r
  | succ f ih =>
    intro t e h
    have h' : e / 2 < 2 ^ f := by rw [Nat.pow_succ] at h; omega
    have e2 : tev r (tpow f (tmul t t) (e / 2)) = fpow (tev r t) (2 * (e / 2)) := by
      rw [ih _ _ h', tev_mul r hr, fpow_mul, fpow_two]
    rw [tpow]
    split
    · rename_i ho
      rw [tev_mul r hr, e2]
      have : e = 2 * (e / 2) + 1 := by omega
      conv => rhs; rw [this, fpow]
      grind
    · rename_i ho
      rw [e2]
      have : e = 2 * (e / 2) := by omega
      conv => rhs; rw [this]


theorem no_root_cert : tmul (⟨1261710631285627074303005901530361786216288604486499842249704943048, by decide +kernel⟩, ⟨4447412785031720342771701563499662000791675740805516550464163634437, by decide +kernel⟩, ⟨9439789507511725786058244597052783711805086828869674293526675889612, by decide +kernel⟩) ((tpow 224 (0, 1, 0) p224).1, (tpow 224 (0, 1, 0) p224).2.1 - 1, (tpow 224 (0, 1, 0) p224).2.2) = (1, 0, 0) := by decide +kernel

theorem no_root (r : F) : r * r * r - 3 * r + cb ≠ 0 := by
  intro hr
  have h1 := tpow_ev r hr 224 (0, 1, 0) p224 (by decide +kernel)
  have e : tev r (0, 1, 0) = r := gevx r
  rw [e, fermatF'] at h1
  have h2 := congrArg (tev r) no_root_cert
  rw [tev_mul r hr] at h2
  generalize tpow 224 (0, 1, 0) p224 = t at *
  obtain ⟨a, b, c⟩ := t
  have e0 : tev r (a, b - 1, c) = 0 := by
    simp only [tev] at h1 ⊢; grind
  have e1 : tev r (1, 0, 0) = 1 := gev1 r
  have h3 : (0 : F) = 1 := by
    rw [e1] at h2
    simp only [] at h2
    rw [e0] at h2
    rw [← h2]; grind
  have := congrArg Fin.val h3
  rw [fval_zero, fval_one] at this
  omega

end Go.Proofs.Ytdaheccfeihpgaa.Nm

namespace Go.Proofs.Ytdaheccfeihpgaa.Nm

/-- The point of spec: none is the one that is infinitely far. -/
abbrev Pt := Option (F × F)

def onc (x y : F) : Prop := y * y = x * x * x - 3 * x + cb

def slopeC (x1 y1 x2 y2 : F) : F := (y2 - y1) * finv (x2 - x1)
def slopeT (x y : F) : F := (3 * (x * x) - 3) * finv (y + y)
def sumX (s x1 x2 : F) : F := s * s - x1 - x2
def sumY (s x1 y1 x : F) : F := s * (x1 - x) - y1

def psum : Pt → Pt → Pt
  | none, q => q
  | some p, none => some p
  | some (x1, y1), some (x2, y2) =>
    if x1 ≠ x2 then some (sumX (slopeC x1 y1 x2 y2) x1 x2, sumY (slopeC x1 y1 x2 y2) x1 y1 (sumX (slopeC x1 y1 x2 y2) x1 x2))
    else if y1 ≠ y2 ∨ y1 = 0 then none
    else some (sumX (slopeT x1 y1) x1 x2, sumY (slopeT x1 y1) x1 y1 (sumX (slopeT x1 y1) x1 x2))

/-- Three coordinates. -/
abbrev Tr := F × F × F

def aff (t : Tr) : Option Pt :=
  if t.2.2 = 0 then (if t.1 = 0 ∧ t.2.1 ≠ 0 then some none else none)
  else if (t.2.1 * finv t.2.2) * (t.2.1 * finv t.2.2) = (t.1 * finv t.2.2) * (t.1 * finv t.2.2) * (t.1 * finv t.2.2) - 3 * (t.1 * finv t.2.2) + cb then some (some (t.1 * finv t.2.2, t.2.1 * finv t.2.2)) else none

/-- The sum by three coordinates, step by step as the program takes it. -/
def padd (X1 Y1 Z1 X2 Y2 Z2 : F) : Tr :=
  let t0 := X1 * X2
  let t1 := Y1 * Y2
  let t2 := Z1 * Z2
  let t3 := X1 + Y1
  let t4 := X2 + Y2
  let t3 := t3 * t4
  let t4 := t0 + t1
  let t3 := t3 - t4
  let t4 := Y1 + Z1
  let x3 := Y2 + Z2
  let t4 := t4 * x3
  let x3 := t1 + t2
  let t4 := t4 - x3
  let x3 := X1 + Z1
  let y3 := X2 + Z2
  let x3 := x3 * y3
  let y3 := t0 + t2
  let y3 := x3 - y3
  let z3 := cb * t2
  let x3 := y3 - z3
  let z3 := x3 + x3
  let x3 := x3 + z3
  let z3 := t1 - x3
  let x3 := t1 + x3
  let y3 := cb * y3
  let t1 := t2 + t2
  let t2 := t1 + t2
  let y3 := y3 - t2
  let y3 := y3 - t0
  let t1 := y3 + y3
  let y3 := t1 + y3
  let t1 := t0 + t0
  let t0 := t1 + t0
  let t0 := t0 - t2
  let t1 := t4 * y3
  let t2 := t0 * y3
  let y3 := x3 * z3
  let y3 := y3 + t2
  let x3 := t3 * x3
  let x3 := x3 - t1
  let z3 := t4 * z3
  let t1 := t3 * t0
  let z3 := z3 + t1
  (x3, y3, z3)

/-- The forms behind it. -/
def cX (b x1 y1 z1 x2 y2 z2 : F) : F := (x1 * y2 + x2 * y1) * (y1 * y2 + 3 * (x1 * z2 + x2 * z1) - 3 * (b * (z1 * z2))) - 3 * ((y1 * z2 + y2 * z1) * (b * (x1 * z2 + x2 * z1) - x1 * x2 - 3 * (z1 * z2)))
def cY (b x1 y1 z1 x2 y2 z2 : F) : F := (3 * (x1 * x2) - 3 * (z1 * z2)) * (3 * (b * (x1 * z2 + x2 * z1) - x1 * x2 - 3 * (z1 * z2))) + (y1 * y2 - 3 * (x1 * z2 + x2 * z1) + 3 * (b * (z1 * z2))) * (y1 * y2 + 3 * (x1 * z2 + x2 * z1) - 3 * (b * (z1 * z2)))
def cZ (b x1 y1 z1 x2 y2 z2 : F) : F := (y1 * z2 + y2 * z1) * (y1 * y2 - 3 * (x1 * z2 + x2 * z1) + 3 * (b * (z1 * z2))) + (x1 * y2 + x2 * y1) * (3 * (x1 * x2) - 3 * (z1 * z2))

theorem padd_eq (X1 Y1 Z1 X2 Y2 Z2 : F) : padd X1 Y1 Z1 X2 Y2 Z2 = (cX cb X1 Y1 Z1 X2 Y2 Z2, cY cb X1 Y1 Z1 X2 Y2 Z2, cZ cb X1 Y1 Z1 X2 Y2 Z2) := by
  simp only [padd, cX, cY, cZ, Prod.mk.injEq]
  generalize cb = b
  refine ⟨by grind, by grind, by grind⟩

theorem cX_scale (b x1 y1 x2 y2 s t : F) : cX b (x1 * s) (y1 * s) s (x2 * t) (y2 * t) t = (s * s * (t * t)) * cX b x1 y1 1 x2 y2 1 := by unfold cX; grind
theorem cY_scale (b x1 y1 x2 y2 s t : F) : cY b (x1 * s) (y1 * s) s (x2 * t) (y2 * t) t = (s * s * (t * t)) * cY b x1 y1 1 x2 y2 1 := by unfold cY; grind
theorem cZ_scale (b x1 y1 x2 y2 s t : F) : cZ b (x1 * s) (y1 * s) s (x2 * t) (y2 * t) t = (s * s * (t * t)) * cZ b x1 y1 1 x2 y2 1 := by unfold cZ; grind

section
variable (b x1 y1 x2 y2 : F)
/-- The second coordinate of the difference, times a cube. -/
def nt : F := -(y1 + y2) * (x1 * ((x2 - x1) * (x2 - x1)) - ((y1 + y2) * (y1 + y2) - (x1 + x2) * ((x2 - x1) * (x2 - x1)))) - y1 * ((x2 - x1) * (x2 - x1) * (x2 - x1))
def ntx : F := (y1 + y2) * (y1 + y2) - (x1 + x2) * ((x2 - x1) * (x2 - x1))

theorem z_nt (h1 : y1 * y1 = x1 * x1 * x1 - 3 * x1 + b) (h2 : y2 * y2 = x2 * x2 * x2 - 3 * x2 + b) : cZ b x1 y1 1 x2 y2 1 = nt x1 y1 x2 y2 := by unfold cZ nt; grind
theorem x_chord (h1 : y1 * y1 = x1 * x1 * x1 - 3 * x1 + b) (h2 : y2 * y2 = x2 * x2 * x2 - 3 * x2 + b) :
    cX b x1 y1 1 x2 y2 1 * ((x2 - x1) * (x2 - x1)) = cZ b x1 y1 1 x2 y2 1 * ((y2 - y1) * (y2 - y1) - (x1 + x2) * ((x2 - x1) * (x2 - x1))) := by unfold cX cZ; grind
theorem y_chord (h1 : y1 * y1 = x1 * x1 * x1 - 3 * x1 + b) (h2 : y2 * y2 = x2 * x2 * x2 - 3 * x2 + b) :
    cY b x1 y1 1 x2 y2 1 * ((x2 - x1) * (x2 - x1) * (x2 - x1)) = cZ b x1 y1 1 x2 y2 1 * ((y2 - y1) * (x1 * ((x2 - x1) * (x2 - x1)) - ((y2 - y1) * (y2 - y1) - (x1 + x2) * ((x2 - x1) * (x2 - x1)))) - y1 * ((x2 - x1) * (x2 - x1) * (x2 - x1))) := by unfold cY cZ; grind
theorem nt_on (h1 : y1 * y1 = x1 * x1 * x1 - 3 * x1 + b) (h2 : y2 * y2 = x2 * x2 * x2 - 3 * x2 + b) :
    nt x1 y1 x2 y2 * nt x1 y1 x2 y2 = ntx x1 y1 x2 y2 * ntx x1 y1 x2 y2 * ntx x1 y1 x2 y2 - 3 * ntx x1 y1 x2 y2 * ((x2 - x1) * (x2 - x1) * ((x2 - x1) * (x2 - x1))) + b * ((x2 - x1) * (x2 - x1) * ((x2 - x1) * (x2 - x1)) * ((x2 - x1) * (x2 - x1))) := by unfold nt ntx; grind
def dbx : F := (3 * (x1 * x1) - 3) * (3 * (x1 * x1) - 3) - 8 * (x1 * (y1 * y1))
def dby : F := (3 * (x1 * x1) - 3) * (4 * (x1 * (y1 * y1)) - dbx x1 y1) - 8 * (y1 * y1 * (y1 * y1))
theorem z_dbl (h1 : y1 * y1 = x1 * x1 * x1 - 3 * x1 + b) : cZ b x1 y1 1 x1 y1 1 = 8 * (y1 * (y1 * y1)) := by unfold cZ; grind
theorem x_dbl (h1 : y1 * y1 = x1 * x1 * x1 - 3 * x1 + b) : cX b x1 y1 1 x1 y1 1 = 2 * (y1 * dbx x1 y1) := by unfold cX dbx; grind
theorem y_dbl (h1 : y1 * y1 = x1 * x1 * x1 - 3 * x1 + b) : cY b x1 y1 1 x1 y1 1 = dby x1 y1 := by unfold cY dby dbx; grind
theorem db_on (h1 : y1 * y1 = x1 * x1 * x1 - 3 * x1 + b) :
    dby x1 y1 * dby x1 y1 = dbx x1 y1 * dbx x1 y1 * dbx x1 y1 - 3 * dbx x1 y1 * ((4 * (y1 * y1)) * (4 * (y1 * y1))) + b * ((4 * (y1 * y1)) * (4 * (y1 * y1)) * (4 * (y1 * y1))) := by unfold dby dbx; grind
theorem x_opp : cX b x1 y1 1 x1 (-y1) 1 = 0 := by unfold cX; grind
theorem z_opp : cZ b x1 y1 1 x1 (-y1) 1 = 0 := by unfold cZ; grind
theorem y_opp (h1 : y1 * y1 = x1 * x1 * x1 - 3 * x1 + b) : cY b x1 y1 1 x1 (-y1) 1 = dby x1 y1 := by unfold cY dby dbx; grind
end

theorem y_ne {x y : F} (h : onc x y) : y ≠ 0 := by
  rintro rfl
  unfold onc at h
  apply no_root x
  rw [← h]; grind

theorem two_ne : (2 : F) ≠ 0 := by decide +kernel

/-- A root scaled by a cube is none. -/
theorem no_root_scaled {u D : F} (hD : D ≠ 0) : u * u * u - 3 * u * (D * D) + cb * (D * D * D) ≠ 0 := by
  intro h
  have h1 := mul_finv hD
  apply no_root (u * finv D)
  have hu : u = (u * finv D) * D := by grind
  generalize u * finv D = r at *
  generalize cb = b at *
  subst hu
  apply fcancel (fmul_ne (fmul_ne hD hD) hD)
  rw [Fin.mul_zero, ← h]
  grind

theorem aff_far {y : F} (h : y ≠ 0) : aff (0, y, 0) = some none := by simp [aff, h]

theorem aff_fin {x y z : F} (hz : z ≠ 0) (h : onc x y) : aff (x * z, y * z, z) = some (some (x, y)) := by
  have h1 := mul_finv hz
  have ex : x * z * finv z = x := by grind
  have ey : y * z * finv z = y := by grind
  unfold onc at h
  simp only [aff, ex, ey, if_neg hz, if_pos h]

theorem aff_cases {t : Tr} {P : Pt} (h : aff t = some P) : (∃ y, y ≠ 0 ∧ t = (0, y, 0) ∧ P = none) ∨ (∃ x y z, z ≠ 0 ∧ onc x y ∧ t = (x * z, y * z, z) ∧ P = some (x, y)) := by
  obtain ⟨x, y, z⟩ := t
  simp only [aff] at h
  split at h
  · rename_i hz
    split at h
    · rename_i hx
      refine .inl ⟨y, hx.2, ?_, by simpa using h.symm⟩
      rw [hx.1, hz]
    · cases h
  · rename_i hz
    split at h
    · rename_i hc
      refine .inr ⟨x * finv z, y * finv z, z, hz, hc, ?_, by simpa using h.symm⟩
      have h1 := mul_finv hz
      have ex : x = x * finv z * z := by grind
      have ey : y = y * finv z * z := by grind
      rw [← ex, ← ey]
    · cases h

theorem chord_on {n : Nat} [NeZero n] (x1 y1 s d b : Fin n) (h1 : y1 * y1 = x1 * x1 * x1 - 3 * x1 + b)
    (h2 : (y1 + s * d) * (y1 + s * d) = (x1 + d) * (x1 + d) * (x1 + d) - 3 * (x1 + d) + b) :
    d * ((s * (x1 - (s * s - x1 - (x1 + d))) - y1) * (s * (x1 - (s * s - x1 - (x1 + d))) - y1)) =
    d * ((s * s - x1 - (x1 + d)) * (s * s - x1 - (x1 + d)) * (s * s - x1 - (x1 + d)) - 3 * (s * s - x1 - (x1 + d)) + b) := by grind
theorem ring_a (c X D : F) : c * (X * D) = D * (X * c) := by grind
theorem mulc {a c X D : F} (hD : D ≠ 0) (h : a * D = c * (X * D)) : a = X * c := by
  apply fcancel hD
  rw [Fin.mul_comm D a, h]
  exact ring_a c X D

theorem chord_facts {x1 y1 x2 y2 : F} (hd : x2 - x1 ≠ 0) (h1 : onc x1 y1) (h2 : onc x2 y2) :
    cZ cb x1 y1 1 x2 y2 1 ≠ 0 ∧
    cX cb x1 y1 1 x2 y2 1 = sumX (slopeC x1 y1 x2 y2) x1 x2 * cZ cb x1 y1 1 x2 y2 1 ∧
    cY cb x1 y1 1 x2 y2 1 = sumY (slopeC x1 y1 x2 y2) x1 y1 (sumX (slopeC x1 y1 x2 y2) x1 x2) * cZ cb x1 y1 1 x2 y2 1 ∧
    onc (sumX (slopeC x1 y1 x2 y2) x1 x2) (sumY (slopeC x1 y1 x2 y2) x1 y1 (sumX (slopeC x1 y1 x2 y2) x1 x2)) := by
  unfold onc at h1 h2 ⊢
  have hs : slopeC x1 y1 x2 y2 * (x2 - x1) = y2 - y1 := by
    unfold slopeC
    have := mul_finv hd
    grind
  have hz : cZ cb x1 y1 1 x2 y2 1 ≠ 0 := by
    rw [z_nt cb x1 y1 x2 y2 h1 h2]
    intro h0
    have hon := nt_on cb x1 y1 x2 y2 h1 h2
    rw [h0] at hon
    apply no_root_scaled (u := ntx x1 y1 x2 y2) (fmul_ne hd hd)
    rw [← hon]; grind
  have hx := x_chord cb x1 y1 x2 y2 h1 h2
  have hy := y_chord cb x1 y1 x2 y2 h1 h2
  generalize slopeC x1 y1 x2 y2 = s at *
  have e1 : (y2 - y1) * (y2 - y1) - (x1 + x2) * ((x2 - x1) * (x2 - x1)) = sumX s x1 x2 * ((x2 - x1) * (x2 - x1)) := by
    rw [← hs]; unfold sumX; grind
  have e2 : (y2 - y1) * (x1 * ((x2 - x1) * (x2 - x1)) - sumX s x1 x2 * ((x2 - x1) * (x2 - x1))) - y1 * ((x2 - x1) * (x2 - x1) * (x2 - x1)) = sumY s x1 y1 (sumX s x1 x2) * ((x2 - x1) * (x2 - x1) * (x2 - x1)) := by
    rw [← hs]; unfold sumY; grind
  rw [e1] at hx
  rw [e1, e2] at hy
  refine ⟨hz, mulc (fmul_ne hd hd) hx, mulc (fmul_ne (fmul_ne hd hd) hd) hy, ?_⟩
  clear hx hy e1 e2 hz
  have e3 : y2 = y1 + s * (x2 - x1) := by rw [hs]; grind
  clear hs
  generalize hdd : x2 - x1 = d at *
  have e4 : x2 = x1 + d := by rw [← hdd]; grind
  clear hdd
  subst e4 e3
  apply fcancel hd
  unfold sumX sumY
  generalize cb = b at *
  exact chord_on x1 y1 s d b h1 h2

theorem tang_on {n : Nat} [NeZero n] (x y s b : Fin n) (h1 : y * y = x * x * x - 3 * x + b) (hs : s * (y + y) = 3 * (x * x) - 3) :
    (4 * (y * y)) * ((s * (x - (s * s - x - x)) - y) * (s * (x - (s * s - x - x)) - y)) =
    (4 * (y * y)) * ((s * s - x - x) * (s * s - x - x) * (s * s - x - x) - 3 * (s * s - x - x) + b) := by grind
theorem ring_tx {n : Nat} [NeZero n] (x y s : Fin n) (hs : s * (y + y) = 3 * (x * x) - 3) : (3 * (x * x) - 3) * (3 * (x * x) - 3) - 8 * (x * (y * y)) = (s * s - x - x) * (4 * (y * y)) := by grind
theorem ring_ty {n : Nat} [NeZero n] (x y s u : Fin n) (hs : s * (y + y) = 3 * (x * x) - 3) : (3 * (x * x) - 3) * (4 * (x * (y * y)) - u * (4 * (y * y))) - 8 * (y * y * (y * y)) = (s * (x - u) - y) * (8 * (y * (y * y))) := by grind
theorem ring_t2 {n : Nat} [NeZero n] (y u : Fin n) : 2 * (y * (u * (4 * (y * y)))) = u * (8 * (y * (y * y))) := by grind
theorem ring_48 {n : Nat} [NeZero n] (y : Fin n) : 4 * (y * y) = (2 * y) * (2 * y) := by grind
theorem ring_8 {n : Nat} [NeZero n] (y : Fin n) : 8 * (y * (y * y)) = (2 * y) * (2 * y) * (2 * y) := by grind
theorem ring_d {n : Nat} [NeZero n] (y : Fin n) : y + y = 2 * y := by grind

theorem tang_facts {x y : F} (h1 : onc x y) :
    cZ cb x y 1 x y 1 ≠ 0 ∧
    cX cb x y 1 x y 1 = sumX (slopeT x y) x x * cZ cb x y 1 x y 1 ∧
    cY cb x y 1 x y 1 = sumY (slopeT x y) x y (sumX (slopeT x y) x x) * cZ cb x y 1 x y 1 ∧
    onc (sumX (slopeT x y) x x) (sumY (slopeT x y) x y (sumX (slopeT x y) x x)) := by
  have hy := y_ne h1
  have h2y : 2 * y ≠ 0 := fmul_ne two_ne hy
  have hyy : y + y ≠ 0 := by rw [ring_d]; exact h2y
  have h4 : 4 * (y * y) ≠ 0 := by rw [ring_48]; exact fmul_ne h2y h2y
  have hs : slopeT x y * (y + y) = 3 * (x * x) - 3 := by
    unfold slopeT
    have := mul_finv hyy
    rw [Fin.mul_assoc, Fin.mul_comm (finv _), this, Fin.mul_one]
  generalize slopeT x y = s at *
  unfold onc at h1 ⊢
  have ex : dbx x y = sumX s x x * (4 * (y * y)) := ring_tx x y s hs
  refine ⟨?_, ?_, ?_, ?_⟩
  · rw [z_dbl cb x y h1, ring_8]
    exact fmul_ne (fmul_ne h2y h2y) h2y
  · rw [z_dbl cb x y h1, x_dbl cb x y h1, ex, ring_t2]
  · rw [z_dbl cb x y h1, y_dbl cb x y h1]
    unfold dby
    rw [ex]
    exact ring_ty x y s _ hs
  · apply fcancel h4
    exact tang_on x y s cb h1 hs

theorem opp_facts {x y : F} (h1 : onc x y) : cX cb x y 1 x (-y) 1 = 0 ∧ cZ cb x y 1 x (-y) 1 = 0 ∧ cY cb x y 1 x (-y) 1 ≠ 0 := by
  refine ⟨x_opp .., z_opp .., ?_⟩
  have hy := y_ne h1
  have h2y : 2 * y ≠ 0 := fmul_ne two_ne hy
  have h4 : 4 * (y * y) ≠ 0 := by rw [ring_48]; exact fmul_ne h2y h2y
  rw [y_opp cb x y h1]
  intro h0
  have hon := db_on cb x y h1
  rw [h0] at hon
  apply no_root_scaled (u := dbx x y) h4
  rw [← hon, Fin.mul_zero]

theorem same_x {x y1 y2 : F} (h1 : onc x y1) (h2 : onc x y2) : y1 = y2 ∨ y2 = -y1 := by
  unfold onc at h1 h2
  have : (y1 - y2) * (y1 + y2) = 0 := by
    have e : (y1 - y2) * (y1 + y2) = y1 * y1 - y2 * y2 := by grind
    rw [e, h1, h2, Fin.sub_self]
  rcases fmul_eq_zero this with h | h
  · left; grind
  · right; grind

theorem aff_result {X3 Y3 Z3 k x y : F} (hk : k ≠ 0) (hz : Z3 ≠ 0) (hx : X3 = x * Z3) (hy : Y3 = y * Z3) (hon : onc x y) : aff (k * X3, k * Y3, k * Z3) = some (some (x, y)) := by
  have e1 : k * X3 = x * (k * Z3) := by rw [hx, ← Fin.mul_assoc, ← Fin.mul_assoc, Fin.mul_comm k x]
  have e2 : k * Y3 = y * (k * Z3) := by rw [hy, ← Fin.mul_assoc, ← Fin.mul_assoc, Fin.mul_comm k y]
  rw [e1, e2]
  exact aff_fin (fmul_ne hk hz) hon

theorem cX_far1 (b y1 x2 y2 z2 : F) : cX b 0 y1 0 x2 y2 z2 = x2 * (y1 * y1 * y2) := by unfold cX; grind
theorem cY_far1 (b y1 x2 y2 z2 : F) : cY b 0 y1 0 x2 y2 z2 = y2 * (y1 * y1 * y2) := by unfold cY; grind
theorem cZ_far1 (b y1 x2 y2 z2 : F) : cZ b 0 y1 0 x2 y2 z2 = z2 * (y1 * y1 * y2) := by unfold cZ; grind
theorem cX_far2 (b x1 y1 z1 y2 : F) : cX b x1 y1 z1 0 y2 0 = x1 * (y2 * y2 * y1) := by unfold cX; grind
theorem cY_far2 (b x1 y1 z1 y2 : F) : cY b x1 y1 z1 0 y2 0 = y1 * (y2 * y2 * y1) := by unfold cY; grind
theorem cZ_far2 (b x1 y1 z1 y2 : F) : cZ b x1 y1 z1 0 y2 0 = z1 * (y2 * y2 * y1) := by unfold cZ; grind

theorem aff_far_scaled {y k : F} (h : y * k ≠ 0) : aff (0 * k, y * k, 0 * k) = some none := by
  rw [Fin.zero_mul]; exact aff_far h
theorem aff_fin_scaled {x y z k : F} (hk : k ≠ 0) (hz : z ≠ 0) (h : onc x y) : aff (x * z * k, y * z * k, z * k) = some (some (x, y)) := by
  rw [Fin.mul_assoc, Fin.mul_assoc]; exact aff_fin (fmul_ne hz hk) h

/-- The sum by three coordinates is the sum. -/
theorem aff_padd {X1 Y1 Z1 X2 Y2 Z2 : F} {P Q : Pt} (h1 : aff (X1, Y1, Z1) = some P) (h2 : aff (X2, Y2, Z2) = some Q) :
    aff (padd X1 Y1 Z1 X2 Y2 Z2) = some (psum P Q) := by
  rw [padd_eq]
  rcases aff_cases h1 with ⟨y1, hy1, e1, rfl⟩ | ⟨x1, y1, z1, hz1, ho1, e1, rfl⟩
  · simp only [Prod.mk.injEq] at e1
    obtain ⟨rfl, rfl, rfl⟩ := e1
    rw [cX_far1, cY_far1, cZ_far1]
    rcases aff_cases h2 with ⟨y2, hy2, e2, rfl⟩ | ⟨x2, y2, z2, hz2, ho2, e2, rfl⟩
    · simp only [Prod.mk.injEq] at e2
      obtain ⟨rfl, rfl, rfl⟩ := e2
      exact aff_far_scaled (fmul_ne hy2 (fmul_ne (fmul_ne hy1 hy1) hy2))
    · simp only [Prod.mk.injEq] at e2
      obtain ⟨rfl, rfl, rfl⟩ := e2
      exact aff_fin_scaled (fmul_ne (fmul_ne hy1 hy1) (fmul_ne (y_ne ho2) hz2)) hz2 ho2
  · simp only [Prod.mk.injEq] at e1
    obtain ⟨rfl, rfl, rfl⟩ := e1
    rcases aff_cases h2 with ⟨y2, hy2, e2, rfl⟩ | ⟨x2, y2, z2, hz2, ho2, e2, rfl⟩
    · simp only [Prod.mk.injEq] at e2
      obtain ⟨rfl, rfl, rfl⟩ := e2
      rw [cX_far2, cY_far2, cZ_far2]
      exact aff_fin_scaled (fmul_ne (fmul_ne hy2 hy2) (fmul_ne (y_ne ho1) hz1)) hz1 ho1
    · simp only [Prod.mk.injEq] at e2
      obtain ⟨rfl, rfl, rfl⟩ := e2
      rw [cX_scale, cY_scale, cZ_scale]
      have hk := fmul_ne (fmul_ne hz1 hz1) (fmul_ne hz2 hz2)
      simp only [psum]
      by_cases hx : x1 = x2
      · subst hx
        rw [if_neg (by simp)]
        rcases same_x ho1 ho2 with hy | hy
        · subst hy
          rw [if_neg (by simpa using y_ne ho1)]
          obtain ⟨f1, f2, f3, f4⟩ := tang_facts ho1
          exact aff_result hk f1 f2 f3 f4
        · subst hy
          have hne : y1 ≠ -y1 := by
            intro he
            have : y1 + y1 = 0 := by
              conv => lhs; rhs; rw [he]
              grind
            rw [ring_d] at this
            exact fmul_ne two_ne (y_ne ho1) this
          rw [if_pos (.inl hne)]
          obtain ⟨f1, f2, f3⟩ := opp_facts ho1
          rw [f1, f2, Fin.mul_zero]
          exact aff_far (fmul_ne hk f3)
      · rw [if_pos hx]
        have hd : x2 - x1 ≠ 0 := by
          intro h0
          apply hx
          grind
        obtain ⟨f1, f2, f3, f4⟩ := chord_facts hd ho1 ho2
        exact aff_result hk f1 f2 f3 f4

theorem padd_comm (X1 Y1 Z1 X2 Y2 Z2 : F) : padd X1 Y1 Z1 X2 Y2 Z2 = padd X2 Y2 Z2 X1 Y1 Z1 := by
  rw [padd_eq, padd_eq]
  simp only [Prod.mk.injEq]
  generalize cb = b
  refine ⟨by unfold cX; grind, by unfold cY; grind, by unfold cZ; grind⟩

theorem psum_none (P : Pt) : psum P none = P := by
  cases P <;> rfl

end Go.Proofs.Ytdaheccfeihpgaa.Nm

