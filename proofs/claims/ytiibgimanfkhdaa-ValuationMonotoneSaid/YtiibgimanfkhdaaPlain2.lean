/- PLAIN ARITHMETIC for ValuationMonotone, with no program in sight: the value grows with the quantity and the price, falls with the haircut, and adds up within one unit. -/
import Derived.Test.YtiibgimanfkhdaaPlain
namespace Go.Proofs.Vp

theorem ok_parts (q p n d : Int) (h : valE q p n d = 0) : valN q p n d = raw q p n d ∧ 0 ≤ q ∧ q ≤ 1000000000000000 ∧ 0 ≤ p ∧ chk n d = 0 ∧ 0 ≤ n ∧ n ≤ d ∧ 1 ≤ d ∧ inr q p n d = true ∧ raw q p n d ≤ 1000000000000000 := by
  rcases hi : inr q p n d with _ | _
  · have := (val_out q p n d hi).2; omega
  · by_cases hr : raw q p n d ≤ 1000000000000000
    · have hi' := hi
      unfold inr fit at hi'
      simp at hi'
      obtain ⟨⟨q1, q2⟩, p1, p2, hc, n1, n2⟩ := hi'
      have hd := chk_den n d hc
      exact ⟨(val_ok q p n d hi hr).1, q1, q2, by omega, hc, n1, n2, hd.1, rfl, hr⟩
    · have := (val_big q p n d hi (by omega)).2; omega

theorem mono_q (q r p n d : Int) (h1 : valE q p n d = 0) (h2 : valE r p n d = 0) (h : q ≤ r) : valN q p n d ≤ valN r p n d := by
  obtain ⟨e1, _, _, hp, _, hn, hnd, hd, _, _⟩ := ok_parts q p n d h1
  obtain ⟨e2, _⟩ := ok_parts r p n d h2
  rw [e1, e2]
  unfold raw
  exact Int.ediv_le_ediv (by omega) (Int.mul_le_mul_of_nonneg_right h (Int.mul_nonneg hp (by omega)))
theorem mono_p (q p o n d : Int) (h1 : valE q p n d = 0) (h2 : valE q o n d = 0) (h : p ≤ o) : valN q p n d ≤ valN q o n d := by
  obtain ⟨e1, hq, _, _, _, hn, hnd, hd, _, _⟩ := ok_parts q p n d h1
  obtain ⟨e2, _⟩ := ok_parts q o n d h2
  rw [e1, e2]
  unfold raw
  exact Int.ediv_le_ediv (by omega) (Int.mul_le_mul_of_nonneg_left (Int.mul_le_mul_of_nonneg_right h (by omega)) hq)
theorem mono_h (q p n d m c : Int) (h1 : valE q p n d = 0) (h2 : valE q p m c = 0) (h : n * c ≤ m * d) : valN q p m c ≤ valN q p n d := by
  obtain ⟨e1, hq, _, hp, _, _, hnd, hd, _, _⟩ := ok_parts q p n d h1
  obtain ⟨e2, _, _, _, _, _, hmc, hc, _, _⟩ := ok_parts q p m c h2
  rw [e1, e2]
  unfold raw
  have K : 0 ≤ q * p := Int.mul_nonneg hq hp
  rw [← Int.mul_assoc, ← Int.mul_assoc]
  generalize q * p = k at *
  rw [Int.le_ediv_iff_mul_le (by omega)]
  have a := Int.ediv_mul_le (k * (c - m)) (show c ≠ 0 by omega)
  generalize k * (c - m) / c = v at *
  -- v * c ≤ k (c - m)  and  (c - m) d ≤ (d - n) c
  have b : (c - m) * d ≤ (d - n) * c := by
    rw [Int.sub_mul, Int.sub_mul, Int.mul_comm c d]; omega
  have b2 : k * ((c - m) * d) ≤ k * ((d - n) * c) := Int.mul_le_mul_of_nonneg_left b K
  have a2 : v * c * d ≤ k * (c - m) * d := Int.mul_le_mul_of_nonneg_right a (by omega)
  have e3 : v * d * c ≤ k * (d - n) * c := by
    rw [Int.mul_right_comm v d c]
    refine Int.le_trans a2 ?_
    rw [Int.mul_assoc, Int.mul_assoc]
    exact b2
  exact Int.le_of_mul_le_mul_right e3 (by omega)
theorem add_up (q r p n d : Int) (h1 : valE q p n d = 0) (h2 : valE r p n d = 0) (h3 : valE (q + r) p n d = 0) :
    valN (q + r) p n d = valN q p n d + valN r p n d ∨ valN (q + r) p n d = valN q p n d + valN r p n d + 1 := by
  obtain ⟨e1, _, _, hp, _, _, hnd, hd, _, _⟩ := ok_parts q p n d h1
  obtain ⟨e2, _⟩ := ok_parts r p n d h2
  obtain ⟨e3, _⟩ := ok_parts (q + r) p n d h3
  rw [e1, e2, e3]
  unfold raw
  rw [Int.add_mul]
  generalize q * (p * (d - n)) = x
  generalize r * (p * (d - n)) = y
  have a1 := Int.mul_ediv_add_emod x d
  have a2 := Int.mul_ediv_add_emod y d
  have b1 := Int.emod_nonneg x (show d ≠ 0 by omega)
  have b2 := Int.emod_nonneg y (show d ≠ 0 by omega)
  have c1 := Int.emod_lt_of_pos x (show 0 < d by omega)
  have c2 := Int.emod_lt_of_pos y (show 0 < d by omega)
  generalize x % d = s at *
  generalize y % d = t at *
  have e : x + y = (s + t) + d * (x / d + y / d) := by rw [Int.mul_add]; omega
  rw [e, Int.add_mul_ediv_left _ _ (show d ≠ 0 by omega)]
  by_cases h : s + t < d
  · rw [Int.ediv_eq_zero_of_lt (by omega) h]; omega
  · have : (s + t) / d = 1 := by
      rw [show s + t = (s + t - d) + d * 1 by omega, Int.add_mul_ediv_left _ _ (show d ≠ 0 by omega), Int.ediv_eq_zero_of_lt (by omega) (by omega)]; rfl
    omega

/-- The comparison of two fractions: by the sign of the difference; 0 where one is invalid. -/
def cmpF (n d m c : Int) : Int := if chk n d = 0 ∧ chk m c = 0 then (if n * c < m * d then -1 else if m * d < n * c then 1 else 0) else 0
theorem cmp_le (q p n d m c : Int) (h1 : valE q p n d = 0) (h2 : valE q p m c = 0) (h : cmpF n d m c ≤ 0) : valN q p m c ≤ valN q p n d := by
  refine mono_h q p n d m c h1 h2 ?_
  obtain ⟨_, _, _, _, hc1, _⟩ := ok_parts q p n d h1
  obtain ⟨_, _, _, _, hc2, _⟩ := ok_parts q p m c h2
  unfold cmpF at h
  rw [if_pos ⟨hc1, hc2⟩] at h
  split at h
  · omega
  · split at h <;> omega
theorem cmp_ge (q p n d m c : Int) (h1 : valE q p n d = 0) (h2 : valE q p m c = 0) (h : 0 ≤ cmpF n d m c) : valN q p n d ≤ valN q p m c := by
  refine mono_h q p m c n d h2 h1 ?_
  obtain ⟨_, _, _, _, hc1, _⟩ := ok_parts q p n d h1
  obtain ⟨_, _, _, _, hc2, _⟩ := ok_parts q p m c h2
  unfold cmpF at h
  rw [if_pos ⟨hc1, hc2⟩] at h
  split at h
  · omega
  · split at h <;> omega
theorem prod_bound (n c : Int) (a3 : -1000000000 ≤ n) (a4 : n ≤ 1000000000) (b1 : 1 ≤ c) (b2 : c ≤ 1000000000) : -1000000000000000000 ≤ n * c ∧ n * c ≤ 1000000000000000000 := by
  have h1 := Int.mul_le_mul_of_nonneg_right a4 (show 0 ≤ c by omega)
  have h2 := Int.mul_le_mul_of_nonneg_right a3 (show 0 ≤ c by omega)
  omega
theorem valN_bd (q p n d : Int) : 0 ≤ valN q p n d ∧ valN q p n d ≤ 1000000000000000 := by
  rcases hi : inr q p n d with _ | _
  · have := (val_out q p n d hi).1; omega
  · by_cases hr : raw q p n d ≤ 1000000000000000
    · have h1 := (val_ok q p n d hi hr).2
      obtain ⟨e, q0, _, p0, _, n0, nd, d1, _, _⟩ := ok_parts q p n d h1
      rw [e]
      refine ⟨?_, hr⟩
      unfold raw
      exact Int.ediv_nonneg (Int.mul_nonneg q0 (Int.mul_nonneg p0 (by omega))) (by omega)
    · have := (val_big q p n d hi (by omega)).1; omega
end Go.Proofs.Vp
