/- THE CONTRACTS of the functions in the middle: a price and a haircut in range, the reference's quotient. -/
import Derived.Test.YtiibgimanfkhdaaSmall
import Derived.Lib.RabinKarpLaws
namespace Go.Proofs.Ytiibgimanfkhdaa
open Go.RowKit

-- giroref33.fits
set_option maxHeartbeats 400000 in
theorem fits_any (p n d : Int) (w : World) :
    Calls Try.prog 14 #[.int .i64 p, .agg #[.int .i64 n, .int .i64 d]] w fun e w' => e = .returned (.bool (Vp.fit p n d)) ∧ Below w.heap.size w w' := by
  by_cases h1 : 1 ≤ p
  · by_cases h2 : p ≤ 1000000000
    · by_cases h3 : Vp.chk n d = 0
      · have t3 : (Vp.chk n d == 0) = true := by rw [h3]; rfl
        have H3 := Lib.hid h3
        by_cases h4 : 0 ≤ n
        · by_cases h5 : n ≤ d
          · have E : Hid (Vp.fit p n d = true) := by show _ = _; unfold Vp.fit; exact decide_eq_true ⟨h1, h2, h3, h4, h5⟩
            clear h3
            go_enter Try.func14, Try.ntmps14
            go_wp2_with (go_at_call 17; refine (chk_ref n d _).mono ?_; rintro e w' ⟨rfl, hb⟩; obtain ⟨hc, hf⟩ := bcell hb)
            go_ret
            exact ⟨by rw [E.out]; rfl, ((Below.refl _ _).alloc (Nat.le_refl _) _).trans (hb.mono (by simp))⟩
          · have t5 : decide (n ≤ d) = false := decide_eq_false h5
            have E : Hid (Vp.fit p n d = false) := by show _ = _; unfold Vp.fit; exact decide_eq_false (by rintro ⟨g1, g2, g3, g4, g5⟩; omega)
            clear h3
            go_enter Try.func14, Try.ntmps14
            go_wp2_with (go_at_call 17; refine (chk_ref n d _).mono ?_; rintro e w' ⟨rfl, hb⟩; obtain ⟨hc, hf⟩ := bcell hb)
            go_ret
            exact ⟨by rw [E.out]; rfl, ((Below.refl _ _).alloc (Nat.le_refl _) _).trans (hb.mono (by simp))⟩
        · have E : Hid (Vp.fit p n d = false) := by show _ = _; unfold Vp.fit; exact decide_eq_false (by rintro ⟨g1, g2, g3, g4, g5⟩; omega)
          clear h3
          go_enter Try.func14, Try.ntmps14
          go_wp2_with (go_at_call 17; refine (chk_ref n d _).mono ?_; rintro e w' ⟨rfl, hb⟩; obtain ⟨hc, hf⟩ := bcell hb)
          go_ret
          exact ⟨by rw [E.out]; rfl, ((Below.refl _ _).alloc (Nat.le_refl _) _).trans (hb.mono (by simp))⟩
      · have t3 : (Vp.chk n d == 0) = false := by simp [h3]
        have E : Hid (Vp.fit p n d = false) := by show _ = _; unfold Vp.fit; exact decide_eq_false (by rintro ⟨g1, g2, g3, g4, g5⟩; omega)
        go_enter Try.func14, Try.ntmps14
        go_wp2_with (go_at_call 17; refine (chk_ref n d _).mono ?_; rintro e w' ⟨rfl, hb⟩; obtain ⟨hc, hf⟩ := bcell hb)
        go_ret
        exact ⟨by rw [E.out]; rfl, ((Below.refl _ _).alloc (Nat.le_refl _) _).trans (hb.mono (by simp))⟩
    · have E : Hid (Vp.fit p n d = false) := by show _ = _; unfold Vp.fit; exact decide_eq_false (by rintro ⟨g1, g2, g3, g4, g5⟩; omega)
      go_enter Try.func14, Try.ntmps14
      go_wp2_with (go_at_call 17; refine (chk_ref n d _).mono ?_; rintro e w' ⟨rfl, hb⟩; obtain ⟨hc, hf⟩ := bcell hb)
      go_ret
      exact ⟨by rw [E.out]; rfl, (Below.refl _ _).alloc (Nat.le_refl _) _⟩
  · have E : Hid (Vp.fit p n d = false) := by show _ = _; unfold Vp.fit; exact decide_eq_false (by rintro ⟨g1, g2, g3, g4, g5⟩; omega)
    go_enter Try.func14, Try.ntmps14
    go_wp2_with (go_at_call 17; refine (chk_ref n d _).mono ?_; rintro e w' ⟨rfl, hb⟩; obtain ⟨hc, hf⟩ := bcell hb)
    go_ret
    exact ⟨by rw [E.out]; rfl, (Below.refl _ _).alloc (Nat.le_refl _) _⟩

-- valuation.valid
set_option maxHeartbeats 400000 in
theorem valid_any (p n d : Int) (w : World) :
    Calls Try.prog 11 #[.int .i64 p, .agg #[.int .i64 n, .int .i64 d]] w fun e w' => e = .returned (.bool (Vp.fit p n d)) ∧ Below w.heap.size w w' := by
  by_cases h1 : 1 ≤ p
  · by_cases h2 : p ≤ 1000000000
    · by_cases h3 : Vp.chk n d = 0
      · have t3 : (Vp.chk n d == 0) = true := by rw [h3]; rfl
        have H3 := Lib.hid h3
        by_cases h4 : 0 ≤ n
        · by_cases h5 : n ≤ d
          · have E : Hid (Vp.fit p n d = true) := by show _ = _; unfold Vp.fit; exact decide_eq_true ⟨h1, h2, h3, h4, h5⟩
            clear h3
            go_enter Try.func11, Try.ntmps11
            go_wp2_with (first | (go_at_call 18; refine (chk_own n d _).mono ?_; rintro e w' ⟨rfl, hb⟩; obtain ⟨hc, hf⟩ := bcell hb) | (go_at_call 10; refine (within_yes _ _ _ (by omega) (by omega) _).mono ?_; rintro e w' ⟨rfl, rfl⟩) | (go_at_call 10; refine (within_no _ _ _ (by omega) _).mono ?_; rintro e w' ⟨rfl, rfl⟩))
            go_ret
            exact ⟨by rw [E.out]; rfl, ((Below.refl _ _).alloc (Nat.le_refl _) _).trans (hb.mono (by simp))⟩
          · have t5 : decide (n ≤ d) = false := decide_eq_false h5
            have E : Hid (Vp.fit p n d = false) := by show _ = _; unfold Vp.fit; exact decide_eq_false (by rintro ⟨g1, g2, g3, g4, g5⟩; omega)
            clear h3
            go_enter Try.func11, Try.ntmps11
            go_wp2_with (first | (go_at_call 18; refine (chk_own n d _).mono ?_; rintro e w' ⟨rfl, hb⟩; obtain ⟨hc, hf⟩ := bcell hb) | (go_at_call 10; refine (within_yes _ _ _ (by omega) (by omega) _).mono ?_; rintro e w' ⟨rfl, rfl⟩) | (go_at_call 10; refine (within_no _ _ _ (by omega) _).mono ?_; rintro e w' ⟨rfl, rfl⟩))
            go_ret
            exact ⟨by rw [E.out]; rfl, ((Below.refl _ _).alloc (Nat.le_refl _) _).trans (hb.mono (by simp))⟩
        · have E : Hid (Vp.fit p n d = false) := by show _ = _; unfold Vp.fit; exact decide_eq_false (by rintro ⟨g1, g2, g3, g4, g5⟩; omega)
          clear h3
          go_enter Try.func11, Try.ntmps11
          go_wp2_with (first | (go_at_call 18; refine (chk_own n d _).mono ?_; rintro e w' ⟨rfl, hb⟩; obtain ⟨hc, hf⟩ := bcell hb) | (go_at_call 10; refine (within_yes _ _ _ (by omega) (by omega) _).mono ?_; rintro e w' ⟨rfl, rfl⟩) | (go_at_call 10; refine (within_no _ _ _ (by omega) _).mono ?_; rintro e w' ⟨rfl, rfl⟩))
          go_ret
          exact ⟨by rw [E.out]; rfl, ((Below.refl _ _).alloc (Nat.le_refl _) _).trans (hb.mono (by simp))⟩
      · have t3 : (Vp.chk n d == 0) = false := by simp [h3]
        have E : Hid (Vp.fit p n d = false) := by show _ = _; unfold Vp.fit; exact decide_eq_false (by rintro ⟨g1, g2, g3, g4, g5⟩; omega)
        go_enter Try.func11, Try.ntmps11
        go_wp2_with (first | (go_at_call 18; refine (chk_own n d _).mono ?_; rintro e w' ⟨rfl, hb⟩; obtain ⟨hc, hf⟩ := bcell hb) | (go_at_call 10; refine (within_yes _ _ _ (by omega) (by omega) _).mono ?_; rintro e w' ⟨rfl, rfl⟩) | (go_at_call 10; refine (within_no _ _ _ (by omega) _).mono ?_; rintro e w' ⟨rfl, rfl⟩))
        go_ret
        exact ⟨by rw [E.out]; rfl, ((Below.refl _ _).alloc (Nat.le_refl _) _).trans (hb.mono (by simp))⟩
    · have E : Hid (Vp.fit p n d = false) := by show _ = _; unfold Vp.fit; exact decide_eq_false (by rintro ⟨g1, g2, g3, g4, g5⟩; omega)
      go_enter Try.func11, Try.ntmps11
      go_wp2_with (first | (go_at_call 18; refine (chk_own n d _).mono ?_; rintro e w' ⟨rfl, hb⟩; obtain ⟨hc, hf⟩ := bcell hb) | (go_at_call 10; refine (within_yes _ _ _ (by omega) (by omega) _).mono ?_; rintro e w' ⟨rfl, rfl⟩) | (go_at_call 10; refine (within_no _ _ _ (by omega) _).mono ?_; rintro e w' ⟨rfl, rfl⟩))
      go_ret
      exact ⟨by rw [E.out]; rfl, (Below.refl _ _).alloc (Nat.le_refl _) _⟩
  · have E : Hid (Vp.fit p n d = false) := by show _ = _; unfold Vp.fit; exact decide_eq_false (by rintro ⟨g1, g2, g3, g4, g5⟩; omega)
    go_enter Try.func11, Try.ntmps11
    go_wp2_with (first | (go_at_call 18; refine (chk_own n d _).mono ?_; rintro e w' ⟨rfl, hb⟩; obtain ⟨hc, hf⟩ := bcell hb) | (go_at_call 10; refine (within_yes _ _ _ (by omega) (by omega) _).mono ?_; rintro e w' ⟨rfl, rfl⟩) | (go_at_call 10; refine (within_no _ _ _ (by omega) _).mono ?_; rintro e w' ⟨rfl, rfl⟩))
    go_ret
    exact ⟨by rw [E.out]; rfl, (Below.refl _ _).alloc (Nat.le_refl _) _⟩

-- giroref01.Quo
set_option maxHeartbeats 800000 in
theorem quo_yes (a num den : Nat) (ha : a ≤ 1000000000000000) (hn : num < 2305843009213693952) (hd : 1 ≤ den) (hd2 : den ≤ 1000000000000000000) (hs : a * num / den ≤ 2000000000000000) (w : World) :
    Calls Try.prog 15 #[.int .i64 a, .int .i64 num, .int .i64 den] w fun e w' => e = .returned (.tuple #[.int .i64 ((a * num / den : Nat) : Int), .int .i64 ((a * num % den : Nat) : Int), .bool true]) ∧ ∃ n, w' = w.drewN n := by
  go_enter Try.func15, Try.ntmps15
  go_wp2_with fail
  go_loopw [9, 10, 11] (fun q r i wr => ∃ k m : Nat, k ≤ 61 ∧ i = .int .i64 ((k : Int) - 1) ∧ q = .int .i64 ((a * (num / 2 ^ k) / den : Nat) : Int) ∧ r = .int .i64 ((a * (num / 2 ^ k) % den : Nat) : Int) ∧ Hid (wr = w.drewN m)) (fun _ _ i _ => (intOf i + 1).toNat)
  case atStart =>
    have e := Vp.shift_zero num 61 (by omega)
    exact ⟨61, 0, by omega, rfl, by rw [e]; simp, by rw [e]; simp, rfl⟩
  case round =>
    obtain ⟨k, m, hk, rfl, rfl, rfl, HW⟩ := hrel
    rcases k with _ | j
    · go_wp2
      go_ret3
      exact ⟨by simp, m, HW.out⟩
    · have e : (((j + 1 : Nat) : Int) - 1) = (j : Int) := by omega
      rw [e]
      clear e
      have hr := Nat.mod_lt (a * (num / 2 ^ (j + 1))) (show den > 0 by omega)
      have hq := Vp.quo_mono a (num / 2 ^ (j + 1)) num den (Vp.shift_le _ _)
      generalize hq1 : a * (num / 2 ^ (j + 1)) / den = q at *
      generalize hr1 : a * (num / 2 ^ (j + 1)) % den = r at *
      have hq0 := hq1.symm
      have hr0 := hr1.symm
      clear hq1 hr1
      have hcast : ((num : Int) / 2 ^ j) = ((num / 2 ^ j : Nat) : Int) := by simp
      have hlt : num / 2 ^ j < 9223372036854775808 := Nat.lt_of_le_of_lt (Nat.div_le_self _ _) (by omega)
      have p1 : (1 : Int) ≤ (den : Int) := by omega
      by_cases hb : num / 2 ^ j % 2 = 1
      · have t : (bits .and .i64 ((num : Int) / 2 ^ j) 1 == 1) = true := by rw [hcast, and_one _ hlt, hb]; rfl
        obtain ⟨s, hs'⟩ : ∃ s : Nat, s = a / den := ⟨_, rfl⟩
        obtain ⟨v, hv⟩ : ∃ v : Nat, v = a % den := ⟨_, rfl⟩
        obtain ⟨x, hx⟩ : ∃ x : Nat, x = (2 * r + v) / den := ⟨_, rfl⟩
        obtain ⟨y, hy⟩ : ∃ y : Nat, y = (2 * r + v) % den := ⟨_, rfl⟩
        have hnew := Vp.quo_round a (num / 2 ^ (j + 1)) 1 den (by omega)
        rw [show 2 * (num / 2 ^ (j + 1)) + 1 = num / 2 ^ j from by have := Vp.shift_succ num j; omega, ← hq0, ← hr0, Nat.one_mul, Nat.one_mul, ← hs', ← hv, ← hx, ← hy] at hnew
        obtain ⟨hn1, hn2⟩ := hnew
        have hle := Vp.quo_mono a (num / 2 ^ j) num den (Vp.shift_le _ _)
        rw [← hn1] at hle
        have N1 := Lib.hid hn1
        have N2 := Lib.hid hn2
        have es : ((a : Int) / (den : Int)) = (s : Int) := by rw [hs']; simp
        have ev : ((a : Int) % (den : Int)) = (v : Int) := by rw [hv]; simp
        have ex : (2 * (r : Int) + (v : Int)).tdiv (den : Int) = (x : Int) := by rw [Int.tdiv_eq_ediv_of_nonneg (by omega), hx]; simp
        have ey : (2 * (r : Int) + (v : Int)).tmod (den : Int) = (y : Int) := by rw [Int.tmod_eq_emod_of_nonneg (by omega), hy]; simp
        have ex' : (2 * (r : Int) + (v : Int)) / (den : Int) = (x : Int) := by rw [hx]; simp
        have ey' : (2 * (r : Int) + (v : Int)) % (den : Int) = (y : Int) := by rw [hy]; simp
        have bs : s ≤ a := by rw [hs']; exact Nat.div_le_self _ _
        have bv : v < den := by rw [hv]; exact Nat.mod_lt _ (by omega)
        have bx : x ≤ 2 * r + v := by rw [hx]; exact Nat.div_le_self _ _
        have ws : IntKind.i64.wrap (s : Int) = (s : Int) := IntWalk.i64_in _ (by omega)
        have wx : IntKind.i64.wrap (x : Int) = (x : Int) := IntWalk.i64_in _ (by omega)
        have w1 : IntKind.i64.wrap (2 * (q : Int) + (s : Int)) = 2 * (q : Int) + (s : Int) := IntWalk.i64_in _ (by omega)
        have w2 : IntKind.i64.wrap (2 * (r : Int) + (v : Int)) = 2 * (r : Int) + (v : Int) := IntWalk.i64_in _ (by omega)
        have w3 : IntKind.i64.wrap (2 * (q : Int) + (s : Int) + (x : Int)) = 2 * (q : Int) + (s : Int) + (x : Int) := IntWalk.i64_in _ (by omega)
        have hle' : 2 * (q : Int) + (s : Int) + (x : Int) ≤ 2000000000000000 := by omega
        clear hle hcast hlt hb hs' hv hx hy bs bv bx hn1 hn2 hq0 hr0
        go_wp2
        go_quiet (fail)
        go_wp2
        go_quiet (fail)
        go_wp2
        go_roundw
        case rel => exact ⟨j, _, by omega, rfl, by rw [← N1.out]; go_num, by rw [← N2.out], by have := HW.out; subst this; show _ = _; simp only [World.drewN_drewN]; rfl⟩
        case measure => simp [intOf]
      · have t : (bits .and .i64 ((num : Int) / 2 ^ j) 1 == 1) = false := by rw [hcast, and_one _ hlt, show num / 2 ^ j % 2 = 0 by omega]; rfl
        obtain ⟨x, hx⟩ : ∃ x : Nat, x = (2 * r) / den := ⟨_, rfl⟩
        obtain ⟨y, hy⟩ : ∃ y : Nat, y = (2 * r) % den := ⟨_, rfl⟩
        have hnew := Vp.quo_round a (num / 2 ^ (j + 1)) 0 den (by omega)
        rw [show 2 * (num / 2 ^ (j + 1)) + 0 = num / 2 ^ j from by have := Vp.shift_succ num j; omega, ← hq0, ← hr0, Nat.zero_mul, Nat.zero_mul, Nat.add_zero, Nat.add_zero, ← hx, ← hy] at hnew
        obtain ⟨hn1, hn2⟩ := hnew
        have hle := Vp.quo_mono a (num / 2 ^ j) num den (Vp.shift_le _ _)
        rw [← hn1] at hle
        have N1 := Lib.hid hn1
        have N2 := Lib.hid hn2
        have ex : (2 * (r : Int)).tdiv (den : Int) = (x : Int) := by rw [Int.tdiv_eq_ediv_of_nonneg (by omega), hx]; simp
        have ey : (2 * (r : Int)).tmod (den : Int) = (y : Int) := by rw [Int.tmod_eq_emod_of_nonneg (by omega), hy]; simp
        have ex' : (2 * (r : Int)) / (den : Int) = (x : Int) := by rw [hx]; simp
        have ey' : (2 * (r : Int)) % (den : Int) = (y : Int) := by rw [hy]; simp
        have bx : x ≤ 2 * r := by rw [hx]; exact Nat.div_le_self _ _
        have wx : IntKind.i64.wrap (x : Int) = (x : Int) := IntWalk.i64_in _ (by omega)
        have w3 : IntKind.i64.wrap (2 * (q : Int) + (x : Int)) = 2 * (q : Int) + (x : Int) := IntWalk.i64_in _ (by omega)
        have hle' : 2 * (q : Int) + (x : Int) ≤ 2000000000000000 := by omega
        clear hle hcast hlt hb hx hy bx hn1 hn2 hq0 hr0
        go_wp2
        go_quiet (fail)
        go_wp2
        go_roundw
        case rel => exact ⟨j, _, by omega, rfl, by rw [← N1.out]; go_num, by rw [← N2.out], by have := HW.out; subst this; show _ = _; simp only [World.drewN_drewN]; rfl⟩
        case measure => simp [intOf]
set_option maxHeartbeats 800000 in
theorem quo_no (a num den : Nat) (ha : a ≤ 1000000000000000) (hn : num < 2305843009213693952) (hd : 1 ≤ den) (hd2 : den ≤ 1000000000000000000) (hs : 2000000000000000 < a * num / den) (w : World) :
    Calls Try.prog 15 #[.int .i64 a, .int .i64 num, .int .i64 den] w fun e w' => e = .returned (.tuple #[.int .i64 0, .int .i64 0, .bool false]) ∧ ∃ n, w' = w.drewN n := by
  go_enter Try.func15, Try.ntmps15
  go_wp2_with fail
  go_loopw [9, 10, 11] (fun q r i wr => ∃ k m : Nat, k ≤ 61 ∧ i = .int .i64 ((k : Int) - 1) ∧ q = .int .i64 ((a * (num / 2 ^ k) / den : Nat) : Int) ∧ r = .int .i64 ((a * (num / 2 ^ k) % den : Nat) : Int) ∧ Hid (wr = w.drewN m) ∧ a * (num / 2 ^ k) / den ≤ 2000000000000000) (fun _ _ i _ => (intOf i + 1).toNat)
  case atStart =>
    have e := Vp.shift_zero num 61 (by omega)
    exact ⟨61, 0, by omega, rfl, by rw [e]; simp, by rw [e]; simp, rfl, by rw [e]; simp⟩
  case round =>
    obtain ⟨k, m, hk, rfl, rfl, rfl, HW, hbd⟩ := hrel
    rcases k with _ | j
    · rw [Nat.pow_zero, Nat.div_one] at hbd
      omega
    · have e : (((j + 1 : Nat) : Int) - 1) = (j : Int) := by omega
      rw [e]
      clear e
      have hr := Nat.mod_lt (a * (num / 2 ^ (j + 1))) (show den > 0 by omega)
      have hq := hbd
      clear hbd
      generalize hq1 : a * (num / 2 ^ (j + 1)) / den = q at *
      generalize hr1 : a * (num / 2 ^ (j + 1)) % den = r at *
      have hq0 := hq1.symm
      have hr0 := hr1.symm
      clear hq1 hr1
      have hcast : ((num : Int) / 2 ^ j) = ((num / 2 ^ j : Nat) : Int) := by simp
      have hlt : num / 2 ^ j < 9223372036854775808 := Nat.lt_of_le_of_lt (Nat.div_le_self _ _) (by omega)
      have p1 : (1 : Int) ≤ (den : Int) := by omega
      by_cases hb : num / 2 ^ j % 2 = 1
      · have t : (bits .and .i64 ((num : Int) / 2 ^ j) 1 == 1) = true := by rw [hcast, and_one _ hlt, hb]; rfl
        obtain ⟨s, hs'⟩ : ∃ s : Nat, s = a / den := ⟨_, rfl⟩
        obtain ⟨v, hv⟩ : ∃ v : Nat, v = a % den := ⟨_, rfl⟩
        obtain ⟨x, hx⟩ : ∃ x : Nat, x = (2 * r + v) / den := ⟨_, rfl⟩
        obtain ⟨y, hy⟩ : ∃ y : Nat, y = (2 * r + v) % den := ⟨_, rfl⟩
        have hnew := Vp.quo_round a (num / 2 ^ (j + 1)) 1 den (by omega)
        rw [show 2 * (num / 2 ^ (j + 1)) + 1 = num / 2 ^ j from by have := Vp.shift_succ num j; omega, ← hq0, ← hr0, Nat.one_mul, Nat.one_mul, ← hs', ← hv, ← hx, ← hy] at hnew
        obtain ⟨hn1, hn2⟩ := hnew
        have hle := Vp.quo_mono a (num / 2 ^ j) num den (Vp.shift_le _ _)
        rw [← hn1] at hle
        have N1 := Lib.hid hn1
        have N2 := Lib.hid hn2
        have es : ((a : Int) / (den : Int)) = (s : Int) := by rw [hs']; simp
        have ev : ((a : Int) % (den : Int)) = (v : Int) := by rw [hv]; simp
        have ex : (2 * (r : Int) + (v : Int)).tdiv (den : Int) = (x : Int) := by rw [Int.tdiv_eq_ediv_of_nonneg (by omega), hx]; simp
        have ey : (2 * (r : Int) + (v : Int)).tmod (den : Int) = (y : Int) := by rw [Int.tmod_eq_emod_of_nonneg (by omega), hy]; simp
        have ex' : (2 * (r : Int) + (v : Int)) / (den : Int) = (x : Int) := by rw [hx]; simp
        have ey' : (2 * (r : Int) + (v : Int)) % (den : Int) = (y : Int) := by rw [hy]; simp
        have bs : s ≤ a := by rw [hs']; exact Nat.div_le_self _ _
        have bv : v < den := by rw [hv]; exact Nat.mod_lt _ (by omega)
        have bx : x ≤ 2 * r + v := by rw [hx]; exact Nat.div_le_self _ _
        have ws : IntKind.i64.wrap (s : Int) = (s : Int) := IntWalk.i64_in _ (by omega)
        have wx : IntKind.i64.wrap (x : Int) = (x : Int) := IntWalk.i64_in _ (by omega)
        have w1 : IntKind.i64.wrap (2 * (q : Int) + (s : Int)) = 2 * (q : Int) + (s : Int) := IntWalk.i64_in _ (by omega)
        have w2 : IntKind.i64.wrap (2 * (r : Int) + (v : Int)) = 2 * (r : Int) + (v : Int) := IntWalk.i64_in _ (by omega)
        have w3 : IntKind.i64.wrap (2 * (q : Int) + (s : Int) + (x : Int)) = 2 * (q : Int) + (s : Int) + (x : Int) := IntWalk.i64_in _ (by omega)
        by_cases hb2 : 2 * (q : Int) + (s : Int) + (x : Int) ≤ 2000000000000000
        · clear hle hcast hlt hb hs' hv hx hy bs bv bx hn1 hn2 hq0 hr0
          go_wp2
          go_quiet (fail)
          go_wp2
          go_quiet (fail)
          go_wp2
          go_roundw
          case rel => exact ⟨j, _, by omega, rfl, by rw [← N1.out]; go_num, by rw [← N2.out], by have := HW.out; subst this; show _ = _; simp only [World.drewN_drewN]; rfl, by rw [← N1.out]; omega⟩
          case measure => simp [intOf]
        · clear hle hcast hlt hb hs' hv hx hy bs bv bx hn1 hn2 hq0 hr0
          go_wp2
          go_quiet (fail)
          go_wp2
          go_quiet (fail)
          go_wp2
          go_ret3
          exact ⟨rfl, _, by have := HW.out; subst this; simp only [World.drewN_drewN]; rfl⟩
      · have t : (bits .and .i64 ((num : Int) / 2 ^ j) 1 == 1) = false := by rw [hcast, and_one _ hlt, show num / 2 ^ j % 2 = 0 by omega]; rfl
        obtain ⟨x, hx⟩ : ∃ x : Nat, x = (2 * r) / den := ⟨_, rfl⟩
        obtain ⟨y, hy⟩ : ∃ y : Nat, y = (2 * r) % den := ⟨_, rfl⟩
        have hnew := Vp.quo_round a (num / 2 ^ (j + 1)) 0 den (by omega)
        rw [show 2 * (num / 2 ^ (j + 1)) + 0 = num / 2 ^ j from by have := Vp.shift_succ num j; omega, ← hq0, ← hr0, Nat.zero_mul, Nat.zero_mul, Nat.add_zero, Nat.add_zero, ← hx, ← hy] at hnew
        obtain ⟨hn1, hn2⟩ := hnew
        have hle := Vp.quo_mono a (num / 2 ^ j) num den (Vp.shift_le _ _)
        rw [← hn1] at hle
        have N1 := Lib.hid hn1
        have N2 := Lib.hid hn2
        have ex : (2 * (r : Int)).tdiv (den : Int) = (x : Int) := by rw [Int.tdiv_eq_ediv_of_nonneg (by omega), hx]; simp
        have ey : (2 * (r : Int)).tmod (den : Int) = (y : Int) := by rw [Int.tmod_eq_emod_of_nonneg (by omega), hy]; simp
        have ex' : (2 * (r : Int)) / (den : Int) = (x : Int) := by rw [hx]; simp
        have ey' : (2 * (r : Int)) % (den : Int) = (y : Int) := by rw [hy]; simp
        have bx : x ≤ 2 * r := by rw [hx]; exact Nat.div_le_self _ _
        have wx : IntKind.i64.wrap (x : Int) = (x : Int) := IntWalk.i64_in _ (by omega)
        have w3 : IntKind.i64.wrap (2 * (q : Int) + (x : Int)) = 2 * (q : Int) + (x : Int) := IntWalk.i64_in _ (by omega)
        by_cases hb2 : 2 * (q : Int) + (x : Int) ≤ 2000000000000000
        · clear hle hcast hlt hb hx hy bx hn1 hn2 hq0 hr0
          go_wp2
          go_quiet (fail)
          go_wp2
          go_roundw
          case rel => exact ⟨j, _, by omega, rfl, by rw [← N1.out]; go_num, by rw [← N2.out], by have := HW.out; subst this; show _ = _; simp only [World.drewN_drewN]; rfl, by rw [← N1.out]; omega⟩
          case measure => simp [intOf]
        · clear hle hcast hlt hb hx hy bx hn1 hn2 hq0 hr0
          go_wp2
          go_quiet (fail)
          go_wp2
          go_ret3
          exact ⟨rfl, _, by have := HW.out; subst this; simp only [World.drewN_drewN]; rfl⟩
end Go.Proofs.Ytiibgimanfkhdaa
