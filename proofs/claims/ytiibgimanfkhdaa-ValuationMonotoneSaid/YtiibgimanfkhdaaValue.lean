/- THE CONTRACTS of valuation.Value and of the reference's Value: both return the value of a quantity, rounded down, or the error number. -/
import Derived.Test.YtiibgimanfkhdaaMid
import Derived.Test.YtiibgimanfkhdaaDiv
namespace Go.Proofs.Ytiibgimanfkhdaa
open Go.RowKit

theorem div64_any (hi lo y : Nat) (hy : hi < y) (hlo : lo < 18446744073709551616) (hyb : y < 18446744073709551616) (w : World) :
    Calls Try.prog 13 #[.int .u64 hi, .int .u64 lo, .int .u64 y] w fun e w' => e = .returned (.tuple #[.int .u64 (((hi * 18446744073709551616 + lo) / y : Nat) : Int), .int .u64 (((hi * 18446744073709551616 + lo) % y : Nat) : Int)]) ∧ ∃ n, w' = w.drewN n := by
  rcases Nat.eq_zero_or_pos hi with rfl | h
  · rw [Nat.zero_mul, Nat.zero_add]
    exact div64_small lo y (by omega) hlo hyb w
  · exact div64_big hi lo y h hy hlo hyb w

-- valuation.Value
set_option maxHeartbeats 400000 in
theorem value_out (q p n d : Int) (h : Vp.inr q p n d = false) (w : World) :
    Calls Try.prog 5 #[.int .i64 q, .int .i64 p, .agg #[.int .i64 n, .int .i64 d]] w fun e w' => e = .returned (.tuple #[.int .i64 0, .int .i64 2]) ∧ Below w.heap.size w w' := by
  by_cases hq : 0 ≤ q ∧ q ≤ 1000000000000000
  · have hf : Vp.fit p n d = false := by unfold Vp.inr at h; rw [decide_eq_true hq] at h; exact h
    clear h
    go_enter Try.func5, Try.ntmps5
    go_wp2_with (first | (go_at_call 10; refine (within_yes _ _ _ (by omega) (by omega) _).mono ?_; rintro e w' ⟨rfl, rfl⟩) | (go_at_call 11; refine (valid_any p n d _).mono ?_; rintro e w' ⟨rfl, hb⟩))
    go_ret2
    exact ⟨rfl, ((Below.refl _ _).alloc (Nat.le_refl _) _).trans (hb.mono (by simp))⟩
  · clear h
    have hq' : q < 0 ∨ 1000000000000000 < q := by omega
    clear hq
    go_enter Try.func5, Try.ntmps5
    go_wp2_with (go_at_call 10; refine (within_no _ _ _ hq' _).mono ?_; rintro e w' ⟨rfl, rfl⟩)
    go_ret2
    exact ⟨rfl, (Below.refl _ _).alloc (Nat.le_refl _) _⟩

set_option maxHeartbeats 400000 in
theorem value_in (q p n d : Nat) (h : Vp.inr q p n d = true) (w : World) :
    Calls Try.prog 5 #[.int .i64 q, .int .i64 p, .agg #[.int .i64 n, .int .i64 d]] w fun e w' => e = .returned (.tuple #[.int .i64 (Vp.valN q p n d), .int .i64 (Vp.valE q p n d)]) ∧ Below w.heap.size w w' := by
  have hfit : Vp.fit p n d = true := by unfold Vp.inr at h; simp at h; exact h.2
  have hf := hfit
  unfold Vp.fit at hf
  obtain ⟨p1, p2, hc0, n1, n2⟩ := of_decide_eq_true hf
  obtain ⟨d1, d2, _, _⟩ := Vp.chk_den _ _ hc0
  have hq : q ≤ 1000000000000000 := by unfold Vp.inr at h; simp at h; omega
  have H := Lib.hid h
  clear h hf hc0
  go_enter Try.func5, Try.ntmps5
  go_wp2_with (first | (go_at_call 10; refine (within_yes _ _ _ (by omega) (by omega) _).mono ?_; rintro e w' ⟨rfl, rfl⟩) | (go_at_call 11; refine (valid_any p n d _).mono ?_; rintro e w' ⟨rfl, hb⟩; obtain ⟨hc, hf⟩ := bcell hb))
  refine (Try.bits_Mul64 q p (by omega) (by omega) _).mono ?_
  rintro e w' ⟨rfl, rfl⟩
  obtain ⟨A, hA⟩ : ∃ A, A = q * p / 18446744073709551616 := ⟨_, rfl⟩
  obtain ⟨B, hB⟩ : ∃ B, B = q * p % 18446744073709551616 := ⟨_, rfl⟩
  obtain ⟨k, hk⟩ : ∃ k, k = d - n := ⟨_, rfl⟩
  rw [← hA, ← hB]
  have hB' : B < 18446744073709551616 := by rw [hB]; exact Nat.mod_lt _ (by omega)
  have hA' : A ≤ 54211 := by
    rw [hA]; have := Nat.mul_le_mul hq (show p ≤ 1000000000 by omega); omega
  have hk' : k ≤ 1000000000 := by omega
  have ek : (d : Int) - (n : Int) = (k : Int) := by omega
  have ek1 : IntKind.i64.wrap (k : Int) = (k : Int) := IntWalk.i64_in _ (by omega)
  have ek2 : IntKind.u64.wrap (k : Int) = (k : Int) := IntWalk.u64_in _ (by omega)
  have ed : IntKind.u64.wrap (d : Int) = (d : Int) := IntWalk.u64_in _ (by omega)
  obtain ⟨T, hT⟩ : ∃ T, T = q * p * k := ⟨_, rfl⟩
  have HK := Lib.hid hk
  have HA := Lib.hid hA
  have HB := Lib.hid hB
  have HT := Lib.hid hT
  clear hk hA hB hT
  go_wp2_with fail
  go_quiet (fail)
  go_wp2_with fail
  refine (Try.bits_Mul64 B k (by omega) (by omega) _).mono ?_
  rintro e w'' ⟨rfl, rfl⟩
  obtain ⟨C, hC⟩ : ∃ C, C = B * k / 18446744073709551616 := ⟨_, rfl⟩
  obtain ⟨D, hD⟩ : ∃ D, D = B * k % 18446744073709551616 := ⟨_, rfl⟩
  obtain ⟨E, hE⟩ : ∃ E, E = A * k := ⟨_, rfl⟩
  rw [← hC, ← hD]
  have hE' : E ≤ 54211000000000 := by rw [hE]; exact Nat.mul_le_mul hA' hk'
  have hC' : C < 1000000001 := by
    rw [hC, Nat.div_lt_iff_lt_mul (by omega)]
    have := Nat.mul_le_mul (show B ≤ 18446744073709551615 by omega) hk'; omega
  have hD' : D < 18446744073709551616 := by rw [hD]; exact Nat.mod_lt _ (by omega)
  have eE : IntKind.u64.wrap ((A : Int) * (k : Int)) = (E : Int) := wrap_mul _ _ _ (by rw [← hE]; omega)
  -- the two words of the product
  have hT2 : (E + C) * 18446744073709551616 + D = T := (Vp.words 18446744073709551616 (q * p) k A B C D E HA.out HB.out hC hD hE).trans HT.out.symm
  have HT2 := Lib.hid hT2
  have hraw := Vp.raw_nat q p n d k ek
  rw [← HT.out] at hraw
  have HR := Lib.hid hraw
  clear hC hD hE hT2 hraw
  have fin0 : ∀ W : World, Below w'.heap.size w' W → Below w.heap.size w W := fun W h => ((Below.refl _ _).alloc (Nat.le_refl _) _).trans ((hb.trans (h.mono hb.size)).mono (by simp))
  have FIN := Lib.hid fin0
  clear fin0
  by_cases hov : d ≤ E + C
  · have hv := Vp.val_big q p n d H.out (by rw [HR.out]; have := Vp.over_den d (E + C) 18446744073709551616 D T HT2.out (by omega) hov; omega)
    have HV := Lib.hid hv
    clear hv
    go_wp2_with fail
    go_ret2
    exact ⟨by rw [HV.out.1, HV.out.2]; rfl, FIN.out _ (below_drewN (Below.refl _ _) _)⟩
  · go_wp2_with fail
    refine (div64_any (E + C) D d (by omega) (by omega) (by omega) _).mono ?_
    rintro e w''' ⟨rfl, nq2, rfl⟩
    rw [HT2.out]
    obtain ⟨V, hV⟩ : ∃ V, V = T / d := ⟨_, rfl⟩
    rw [← hV]
    have hR := HR.out
    rw [← hV] at hR
    clear hV
    by_cases hgt : 1000000000000000 < V
    · have hv := Vp.val_big q p n d H.out (by rw [hR]; omega)
      have HV := Lib.hid hv
      clear hv hR
      go_wp2_with fail
      go_ret2
      exact ⟨by rw [HV.out.1, HV.out.2]; rfl, FIN.out _ (below_drewN (Below.refl _ _) _)⟩
    · have hv := Vp.val_ok q p n d H.out (by rw [hR]; omega)
      rw [hR] at hv
      have HV := Lib.hid hv
      clear hv hR
      go_wp2_with fail
      go_ret2
      exact ⟨by rw [HV.out.1, HV.out.2]; rfl, FIN.out _ (below_drewN (Below.refl _ _) _)⟩

-- giroref33.Value
set_option maxHeartbeats 400000 in
theorem rvalue_out (q p n d : Int) (h : Vp.inr q p n d = false) (w : World) :
    Calls Try.prog 7 #[.int .i64 q, .int .i64 p, .agg #[.int .i64 n, .int .i64 d]] w fun e w' => e = .returned (.tuple #[.int .i64 0, .int .i64 2]) ∧ Below w.heap.size w w' := by
  by_cases hq : 0 ≤ q ∧ q ≤ 1000000000000000
  · have hf : Vp.fit p n d = false := by unfold Vp.inr at h; rw [decide_eq_true hq] at h; exact h
    clear h
    go_enter Try.func7, Try.ntmps7
    go_wp2_with (go_at_call 14; refine (fits_any p n d _).mono ?_; rintro e w' ⟨rfl, hb⟩)
    go_ret2
    exact ⟨rfl, ((Below.refl _ _).alloc (Nat.le_refl _) _).trans (hb.mono (by simp))⟩
  · clear h
    by_cases h1 : q < 0
    · go_enter Try.func7, Try.ntmps7
      go_wp2_with fail
      go_ret2
      exact ⟨rfl, (Below.refl _ _).alloc (Nat.le_refl _) _⟩
    · have h2 : 1000000000000000 < q := by omega
      go_enter Try.func7, Try.ntmps7
      go_wp2_with fail
      go_ret2
      exact ⟨rfl, (Below.refl _ _).alloc (Nat.le_refl _) _⟩

set_option maxHeartbeats 400000 in
theorem rvalue_in (q p n d : Nat) (h : Vp.inr q p n d = true) (w : World) :
    Calls Try.prog 7 #[.int .i64 q, .int .i64 p, .agg #[.int .i64 n, .int .i64 d]] w fun e w' => e = .returned (.tuple #[.int .i64 (Vp.valN q p n d), .int .i64 (Vp.valE q p n d)]) ∧ Below w.heap.size w w' := by
  have hfit : Vp.fit p n d = true := by unfold Vp.inr at h; simp at h; exact h.2
  have hf := hfit
  unfold Vp.fit at hf
  obtain ⟨p1, p2, hc0, n1, n2⟩ := of_decide_eq_true hf
  obtain ⟨d1, d2, _, _⟩ := Vp.chk_den _ _ hc0
  have hq : q ≤ 1000000000000000 := by unfold Vp.inr at h; simp at h; omega
  have H := Lib.hid h
  clear h hf hc0
  obtain ⟨k, hk⟩ : ∃ k, k = d - n := ⟨_, rfl⟩
  have hk' : k ≤ 1000000000 := by omega
  have ek : (d : Int) - (n : Int) = (k : Int) := by omega
  obtain ⟨m, hm⟩ : ∃ m, m = p * k := ⟨_, rfl⟩
  have hm' : m ≤ 1000000000000000000 := by rw [hm]; exact Nat.mul_le_mul (show p ≤ 1000000000 by omega) hk'
  have em : IntKind.i64.wrap ((p : Int) * (k : Int)) = (m : Int) := by rw [hm, ← Int.natCast_mul, ← hm]; exact IntWalk.i64_in _ (by omega)
  have hraw := Vp.raw_nat q p n d k ek
  rw [Nat.mul_assoc, ← hm] at hraw
  have HR := Lib.hid hraw
  clear hk hm hraw
  by_cases hs : q * m / d ≤ 2000000000000000
  · by_cases hs2 : q * m / d ≤ 1000000000000000
    · have hv := Vp.val_ok q p n d H.out (by rw [HR.out]; omega)
      rw [HR.out] at hv
      have HV := Lib.hid hv
      have T1 : (((q * m / d : Nat) : Int) ≤ 1000000000000000) := by omega
      go_enter Try.func7, Try.ntmps7
      clear hv
      go_wp2_with (go_at_call 14; refine (fits_any p n d _).mono ?_; rintro e w' ⟨rfl, hb⟩; obtain ⟨hc, hf⟩ := bcell hb)
      refine (quo_yes q m d hq (by omega) (by omega) (by omega) hs _).mono ?_
      rintro e w'' ⟨rfl, nq, rfl⟩
      obtain ⟨V, hV⟩ : ∃ V, V = q * m / d := ⟨_, rfl⟩
      obtain ⟨R, hR⟩ : ∃ R, R = q * m % d := ⟨_, rfl⟩
      rw [← hV, ← hR]
      rw [← hV] at T1 HV
      clear hV hR hs hs2
      go_wp2_with fail
      go_ret2
      exact ⟨by rw [HV.out.1, HV.out.2]; rfl, below_drewN (((Below.refl _ _).alloc (Nat.le_refl _) _).trans (hb.mono (by simp))) _⟩
    · have hv := Vp.val_big q p n d H.out (by rw [HR.out]; omega)
      have HV := Lib.hid hv
      have T1 : (1000000000000000 < ((q * m / d : Nat) : Int)) := by omega
      go_enter Try.func7, Try.ntmps7
      clear hv
      go_wp2_with (go_at_call 14; refine (fits_any p n d _).mono ?_; rintro e w' ⟨rfl, hb⟩; obtain ⟨hc, hf⟩ := bcell hb)
      refine (quo_yes q m d hq (by omega) (by omega) (by omega) hs _).mono ?_
      rintro e w'' ⟨rfl, nq, rfl⟩
      obtain ⟨V, hV⟩ : ∃ V, V = q * m / d := ⟨_, rfl⟩
      obtain ⟨R, hR⟩ : ∃ R, R = q * m % d := ⟨_, rfl⟩
      rw [← hV, ← hR]
      rw [← hV] at T1
      clear hV hR hs hs2
      go_wp2_with fail
      go_ret2
      exact ⟨by rw [HV.out.1, HV.out.2]; rfl, below_drewN (((Below.refl _ _).alloc (Nat.le_refl _) _).trans (hb.mono (by simp))) _⟩
  · have hv := Vp.val_big q p n d H.out (by rw [HR.out]; omega)
    have HV := Lib.hid hv
    go_enter Try.func7, Try.ntmps7
    clear hv
    go_wp2_with (go_at_call 14; refine (fits_any p n d _).mono ?_; rintro e w' ⟨rfl, hb⟩; obtain ⟨hc, hf⟩ := bcell hb)
    refine (quo_no q m d hq (by omega) (by omega) (by omega) (by omega) _).mono ?_
    rintro e w'' ⟨rfl, nq, rfl⟩
    go_wp2_with fail
    go_ret2
    exact ⟨by rw [HV.out.1, HV.out.2]; rfl, below_drewN (((Below.refl _ _).alloc (Nat.le_refl _) _).trans (hb.mono (by simp))) _⟩

/-- Both return the same for every input. -/
theorem value_any (q p n d : Int) (w : World) :
    Calls Try.prog 5 #[.int .i64 q, .int .i64 p, .agg #[.int .i64 n, .int .i64 d]] w fun e w' => e = .returned (.tuple #[.int .i64 (Vp.valN q p n d), .int .i64 (Vp.valE q p n d)]) ∧ Below w.heap.size w w' := by
  rcases h : Vp.inr q p n d with _ | _
  · rw [(Vp.val_out q p n d h).1, (Vp.val_out q p n d h).2]; exact value_out q p n d h w
  · obtain ⟨h1, h2, h3, h4⟩ := Vp.inr_nonneg q p n d h
    obtain ⟨q, rfl⟩ := Int.eq_ofNat_of_zero_le h1
    obtain ⟨p, rfl⟩ := Int.eq_ofNat_of_zero_le h2
    obtain ⟨n, rfl⟩ := Int.eq_ofNat_of_zero_le h3
    obtain ⟨d, rfl⟩ := Int.eq_ofNat_of_zero_le h4
    exact value_in q p n d h w
theorem rvalue_any (q p n d : Int) (w : World) :
    Calls Try.prog 7 #[.int .i64 q, .int .i64 p, .agg #[.int .i64 n, .int .i64 d]] w fun e w' => e = .returned (.tuple #[.int .i64 (Vp.valN q p n d), .int .i64 (Vp.valE q p n d)]) ∧ Below w.heap.size w w' := by
  rcases h : Vp.inr q p n d with _ | _
  · rw [(Vp.val_out q p n d h).1, (Vp.val_out q p n d h).2]; exact rvalue_out q p n d h w
  · obtain ⟨h1, h2, h3, h4⟩ := Vp.inr_nonneg q p n d h
    obtain ⟨q, rfl⟩ := Int.eq_ofNat_of_zero_le h1
    obtain ⟨p, rfl⟩ := Int.eq_ofNat_of_zero_le h2
    obtain ⟨n, rfl⟩ := Int.eq_ofNat_of_zero_le h3
    obtain ⟨d, rfl⟩ := Int.eq_ofNat_of_zero_le h4
    exact rvalue_in q p n d h w
end Go.Proofs.Ytiibgimanfkhdaa
