/- PLAIN ARITHMETIC for the valuation laws, with no program in sight: a digit of the long division in base 2^32 (bits.Div64), the bitwise multiplication of the reference, greatest common divisors, the value of a quantity. -/
namespace Go.Proofs.Vp
/-! ### a digit of Knuth's division, base 2^32 -/


theorem digit_key (q y1 y0 u n r : Nat) (h : q * y1 + r = u) :
    q * (y1 * 4294967296 + y0) + (r * 4294967296 + n) = u * 4294967296 + n + q * y0 := by
  subst h
  have e : q * (y1 * 4294967296 + y0) = q * y1 * 4294967296 + q * y0 := by rw [Nat.mul_add, Nat.mul_assoc]
  rw [e, Nat.add_mul]; omega

/-- The test says 'too big' just when the digit is above the quotient. -/
theorem digit_test (q y1 y0 u n r : Nat) (hy : 0 < y1 * 4294967296 + y0) (h : q * y1 + r = u) :
    q ≤ (u * 4294967296 + n) / (y1 * 4294967296 + y0) ↔ q * y0 ≤ r * 4294967296 + n := by
  rw [Nat.le_div_iff_mul_le hy]
  have := digit_key q y1 y0 u n r h
  omega

theorem digit_lt (y1 y0 u n : Nat) (hu : u < y1 * 4294967296 + y0) (hn : n < 4294967296) :
    (u * 4294967296 + n) / (y1 * 4294967296 + y0) < 4294967296 := by
  rw [Nat.div_lt_iff_lt_mul (by omega)]
  have : (u + 1) * 4294967296 ≤ (y1 * 4294967296 + y0) * 4294967296 := Nat.mul_le_mul_right _ (by omega)
  omega

/-- The first guess is never below, and at most two above 2^32 - 1. -/
theorem digit_guess (y1 y0 u n : Nat) (h1 : 2147483648 ≤ y1) (h0 : y0 < 4294967296) (hu : u < y1 * 4294967296 + y0) (hn : n < 4294967296) :
    (u * 4294967296 + n) / (y1 * 4294967296 + y0) ≤ u / y1 ∧ u / y1 ≤ 4294967297 := by
  constructor
  · have hlt : (u * 4294967296 + n) / (y1 * 4294967296 + y0) < u / y1 + 1 := by
      rw [Nat.div_lt_iff_lt_mul (by omega)]
      have := Nat.div_add_mod u y1
      have hm := Nat.mod_lt u (show y1 > 0 by omega)
      have e : (u / y1 + 1) * (y1 * 4294967296 + y0) = (y1 * (u / y1) + y1) * 4294967296 + (u / y1 + 1) * y0 := by
        rw [Nat.mul_add, Nat.add_mul, Nat.one_mul, Nat.mul_comm y1 (u / y1)]; simp only [← Nat.mul_assoc, Nat.add_mul, Nat.one_mul]
      omega
    omega
  · have : u / y1 < 4294967298 := by
      rw [Nat.div_lt_iff_lt_mul (by omega)]; omega
    omega

/-- Where the loop goes on, the digit is above the quotient. -/
theorem digit_more (q y1 y0 u n r : Nat) (hy : 0 < y1 * 4294967296 + y0) (hu : u < y1 * 4294967296 + y0) (hn : n < 4294967296) (h : q * y1 + r = u)
    (ht : 4294967296 ≤ q ∨ r * 4294967296 + n < q * y0) : (u * 4294967296 + n) / (y1 * 4294967296 + y0) + 1 ≤ q := by
  have hl := digit_lt y1 y0 u n hu hn
  rcases ht with ht | ht
  · omega
  · have := mt (digit_test q y1 y0 u n r hy h).1 (by omega); omega

/-- Where the test says no, it is the quotient. -/
theorem digit_done (q y1 y0 u n r : Nat) (hy : 0 < y1 * 4294967296 + y0) (h : q * y1 + r = u) (hq : (u * 4294967296 + n) / (y1 * 4294967296 + y0) ≤ q)
    (ht : q * y0 ≤ r * 4294967296 + n) : q = (u * 4294967296 + n) / (y1 * 4294967296 + y0) := by
  have := (digit_test q y1 y0 u n r hy h).2 ht; omega

/-- Where the remainder has grown past 2^32, it is the quotient. -/
theorem digit_break (q y1 y0 u n r : Nat) (hy : 0 < y1 * 4294967296 + y0) (h0 : y0 < 4294967296) (h : q * y1 + r = u) (hq : (u * 4294967296 + n) / (y1 * 4294967296 + y0) ≤ q)
    (hb : q ≤ 4294967296) (hr : 4294967296 ≤ r) : q = (u * 4294967296 + n) / (y1 * 4294967296 + y0) := by
  refine digit_done q y1 y0 u n r hy h hq ?_
  have := Nat.mul_le_mul hb (show y0 ≤ 4294967295 by omega)
  omega

theorem pred_mul (q y1 r u : Nat) (h : q * y1 + r = u) (hq : 1 ≤ q) : (q - 1) * y1 + (r + y1) = u := by
  have : q * y1 = (q - 1) * y1 + y1 := by
    conv => lhs; rw [show q = (q - 1) + 1 by omega, Nat.add_mul, Nat.one_mul]
  omega

/-! ### two digits -/
theorem two_digits (K N n0 Y : Nat) (hY : 0 < Y) :
    N / Y * K + (N % Y * K + n0) / Y = (N * K + n0) / Y
    ∧ (N % Y * K + n0) % Y = (N * K + n0) % Y := by
  have h : N * K + n0 = (N % Y * K + n0) + Y * (N / Y * K) := by
    have e1 := congrArg (fun x => x * K) (Nat.div_add_mod N Y)
    simp only [Nat.add_mul] at e1
    rw [← Nat.mul_assoc]; omega
  rw [h, Nat.add_mul_div_left _ _ hY, Nat.add_mul_mod_self_left]
  exact ⟨by omega, rfl⟩

/-- The shift: dividing both sides scaled by 2^s. -/
theorem scaled (N y s : Nat) : (N * 2 ^ s) / (y * 2 ^ s) = N / y ∧ (N * 2 ^ s) % (y * 2 ^ s) / 2 ^ s = N % y := by
  have hp : 0 < 2 ^ s := Nat.two_pow_pos s
  refine ⟨Nat.mul_div_mul_right _ _ hp, ?_⟩
  rw [Nat.mul_mod_mul_right, Nat.mul_div_cancel _ hp]

/-- The upper word of what is shifted. -/
theorem shift_words (hi lo y s : Nat) (hs : s ≤ 63) (hh : hi < y) (hy : y * 2 ^ s < 18446744073709551616) (hlo : lo < 18446744073709551616) :
    hi * 2 ^ s < 18446744073709551616 ∧ (hi * 2 ^ s) ||| (lo / 2 ^ (64 - s)) = hi * 2 ^ s + lo / 2 ^ (64 - s)
    ∧ hi * 2 ^ s + lo / 2 ^ (64 - s) < y * 2 ^ s
    ∧ (hi * 2 ^ s + lo / 2 ^ (64 - s)) * 18446744073709551616 + lo * 2 ^ s % 18446744073709551616 = (hi * 18446744073709551616 + lo) * 2 ^ s := by
  have hp : 2 ^ s * 2 ^ (64 - s) = 18446744073709551616 := by rw [← Nat.pow_add, show s + (64 - s) = 64 by omega]
  have hq : 0 < 2 ^ (64 - s) := Nat.two_pow_pos _
  have hps : 0 < 2 ^ s := Nat.two_pow_pos _
  have hl : lo / 2 ^ (64 - s) < 2 ^ s := by rw [Nat.div_lt_iff_lt_mul hq, hp]; exact hlo
  have h1 : (hi + 1) * 2 ^ s ≤ y * 2 ^ s := Nat.mul_le_mul_right _ (by omega)
  rw [Nat.add_mul, Nat.one_mul] at h1
  refine ⟨by omega, ?_, by omega, ?_⟩
  · rw [Nat.mul_comm hi]; exact (Nat.two_pow_add_eq_or_of_lt hl hi).symm
  · have e : lo * 2 ^ s % 18446744073709551616 = (lo % 2 ^ (64 - s)) * 2 ^ s := by
      rw [← hp, Nat.mul_comm (2 ^ s), Nat.mul_mod_mul_right]
    have d := Nat.div_add_mod lo (2 ^ (64 - s))
    have e2 : lo / 2 ^ (64 - s) * 18446744073709551616 = 2 ^ (64 - s) * (lo / 2 ^ (64 - s)) * 2 ^ s := by
      rw [← hp, Nat.mul_comm (2 ^ (64 - s)) (lo / _), Nat.mul_assoc, Nat.mul_comm (2 ^ s)]
    have e3 : (2 ^ (64 - s) * (lo / 2 ^ (64 - s)) + lo % 2 ^ (64 - s)) * 2 ^ s = lo * 2 ^ s := by rw [d]
    rw [Nat.add_mul] at e3
    rw [e, Nat.add_mul, Nat.add_mul, e2, Nat.mul_right_comm hi]
    omega
end Go.Proofs.Vp
namespace Go.Proofs.Vp
/-! ### the reference's multiplication, bit by bit -/
/-- One round: the quotient and the remainder of a * m by d, doubled and taken on by one binary digit of the multiplier. -/
theorem quo_round (a m t d : Nat) (hd : 0 < d) :
    (2 * (a * m / d) + t * (a / d)) + (2 * (a * m % d) + t * (a % d)) / d = a * (2 * m + t) / d
    ∧ (2 * (a * m % d) + t * (a % d)) % d = a * (2 * m + t) % d := by
  have e1 := Nat.div_add_mod (a * m) d
  have e2 := Nat.div_add_mod a d
  generalize a * m % d = r at *
  generalize a % d = s at *
  generalize a / d = p at *
  generalize hq : a * m / d = q at *
  have h : a * (2 * m + t) = (2 * r + t * s) + d * (2 * q + t * p) := by
    have e3 : a * (2 * m + t) = 2 * (a * m) + t * a := by
      rw [Nat.mul_add, Nat.mul_comm a t, Nat.mul_left_comm]
    have e4 : t * a = d * (t * p) + t * s := by
      rw [← e2, Nat.mul_add, Nat.mul_left_comm]
    have e5 : d * (2 * q + t * p) = 2 * (d * q) + d * (t * p) := by rw [Nat.mul_add, Nat.mul_left_comm]
    omega
  rw [h, Nat.add_mul_div_left _ _ hd, Nat.add_mul_mod_self_left]
  exact ⟨by omega, rfl⟩

theorem quo_mono (a m n d : Nat) (h : m ≤ n) : a * m / d ≤ a * n / d := Nat.div_le_div_right (Nat.mul_le_mul_left _ h)

/-- The digits of a number from the highest one. -/
theorem shift_succ (n i : Nat) : n / 2 ^ i = 2 * (n / 2 ^ (i + 1)) + n / 2 ^ i % 2 := by
  rw [Nat.pow_succ, ← Nat.div_div_eq_div_mul]; omega
theorem shift_le (n i : Nat) : n / 2 ^ i ≤ n := Nat.div_le_self _ _
theorem shift_zero (n k : Nat) (h : n < 2 ^ k) : n / 2 ^ k = 0 := Nat.div_eq_of_lt h

/-! ### greatest common divisors -/
theorem gcd_round (x y : Nat) : Nat.gcd y (x % y) = Nat.gcd x y := by
  rw [Nat.gcd_comm y, ← Nat.gcd_rec, Nat.gcd_comm]

/-! ### the check of a fraction, the value of a quantity -/
/-- The error number of a fraction. -/
def chk (n d : Int) : Int :=
  if d < 1 ∨ 1000000000 < d ∨ n < -1000000000 ∨ 1000000000 < n then 2 else if Nat.gcd n.natAbs d.natAbs = 1 then 0 else 3
/-- The price and the haircut are in range. -/
def fit (p n d : Int) : Bool := decide (1 ≤ p ∧ p ≤ 1000000000 ∧ chk n d = 0 ∧ 0 ≤ n ∧ n ≤ d)
/-- The quantity is in range, too. -/
def inr (q p n d : Int) : Bool := decide (0 ≤ q ∧ q ≤ 1000000000000000) && fit p n d
/-- The value, rounded down. -/
def raw (q p n d : Int) : Int := q * (p * (d - n)) / d
def valN (q p n d : Int) : Int := if inr q p n d = true ∧ raw q p n d ≤ 1000000000000000 then raw q p n d else 0
def valE (q p n d : Int) : Int := if inr q p n d = true then (if raw q p n d ≤ 1000000000000000 then 0 else 12) else 2

theorem chk_den (n d : Int) (h : chk n d = 0) : 1 ≤ d ∧ d ≤ 1000000000 ∧ -1000000000 ≤ n ∧ n ≤ 1000000000 := by
  unfold chk at h; split at h
  · omega
  · omega

/-- The two words of a product of three numbers. -/
theorem words (M X k A B C D E : Nat) (hA : A = X / M) (hB : B = X % M) (hC : C = B * k / M) (hD : D = B * k % M) (hE : E = A * k) : (E + C) * M + D = X * k := by
  have e1 := Nat.div_add_mod X M
  have e2 := Nat.div_add_mod (B * k) M
  rw [← hA, ← hB] at e1
  rw [← hC, ← hD] at e2
  rw [← e1, Nat.add_mul, Nat.add_mul, Nat.mul_comm M A, Nat.mul_right_comm A M k, ← hE, Nat.mul_comm C M]
  omega
theorem raw_nat (q p n d k : Nat) (hk : (d : Int) - n = k) : raw q p n d = ((q * p * k / d : Nat) : Int) := by
  unfold raw
  rw [hk, Nat.mul_assoc]
  simp
theorem val_big (q p n d : Int) (h : inr q p n d = true) (hr : 1000000000000000 < raw q p n d) : valN q p n d = 0 ∧ valE q p n d = 12 := by
  unfold valN valE
  rw [if_neg (by rintro ⟨_, h2⟩; omega), if_pos h, if_neg (by omega)]
  exact ⟨rfl, rfl⟩
theorem val_ok (q p n d : Int) (h : inr q p n d = true) (hr : raw q p n d ≤ 1000000000000000) : valN q p n d = raw q p n d ∧ valE q p n d = 0 := by
  unfold valN valE
  rw [if_pos ⟨h, hr⟩, if_pos h, if_pos hr]
  exact ⟨rfl, rfl⟩
theorem val_out (q p n d : Int) (h : inr q p n d = false) : valN q p n d = 0 ∧ valE q p n d = 2 := by
  unfold valN valE
  rw [if_neg (by rw [h]; rintro ⟨h1, _⟩; cases h1), if_neg (by rw [h]; intro h1; cases h1)]
  exact ⟨rfl, rfl⟩
theorem over_den (d H M D T : Nat) (hT : H * M + D = T) (hd : 1 ≤ d) (h : d ≤ H) : M ≤ T / d := by
  rw [Nat.le_div_iff_mul_le (by omega), ← hT, Nat.mul_comm M]
  have := Nat.mul_le_mul_right M h
  omega
theorem inr_nonneg (q p n d : Int) (h : inr q p n d = true) : 0 ≤ q ∧ 0 ≤ p ∧ 0 ≤ n ∧ 0 ≤ d := by
  unfold inr fit at h
  simp at h
  omega
end Go.Proofs.Vp
