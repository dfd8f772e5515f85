/- THE CONTRACT OF bits.Div64: for hi < y it returns the quotient and the remainder of the two-word number divided by y, and leaves the world alone but for draws. -/
import Derived.Test.YtiibgimanfkhdaaSmall
import Derived.Deep.DeepCutAuto
import Derived.Deep.CutBlock
namespace Go.Proofs.Ytiibgimanfkhdaa
open Go.RowKit

set_option maxHeartbeats 400000 in
theorem div64_small (lo y : Nat) (hy : 1 ≤ y) (hlo : lo < 18446744073709551616) (hyb : y < 18446744073709551616) (w : World) :
    Calls Try.prog 13 #[.int .u64 0, .int .u64 lo, .int .u64 y] w fun e w' => e = .returned (.tuple #[.int .u64 ((lo / y : Nat) : Int), .int .u64 ((lo % y : Nat) : Int)]) ∧ ∃ n, w' = w.drewN n := by
  have h1 : ((y : Int) == 0) = false := by simp; omega
  have h2 : ¬ (y : Int) ≤ 0 := by omega
  obtain ⟨q, hq⟩ : ∃ q : Nat, q = lo / y := ⟨_, rfl⟩
  obtain ⟨r, hr⟩ : ∃ r : Nat, r = lo % y := ⟨_, rfl⟩
  have hql : q ≤ lo := by rw [hq]; exact Nat.div_le_self _ _
  have e1 : (lo : Int) / (y : Int) = (q : Int) := by rw [hq]; simp
  have e2 : (lo : Int) % (y : Int) = (r : Int) := by rw [hr]; simp
  have e4 : (lo : Int).tmod (y : Int) = (r : Int) := by rw [Int.tmod_eq_emod_of_nonneg (by omega), hr]; simp
  have e5 : (lo : Int).tdiv (y : Int) = (q : Int) := by rw [Int.tdiv_eq_ediv_of_nonneg (by omega), hq]; simp
  have e3 : IntKind.u64.wrap (q : Int) = (q : Int) := IntWalk.u64_in _ (by omega)
  rw [← hq, ← hr]
  clear hq hr hql
  go_enter Try.func13, Try.ntmps13
  go_wp2_with fail
  go_quiet (fail)
  go_wp2
  go_ret2
  exact ⟨rfl, nq, rfl⟩

theorem bitLen_log (y : Nat) (h : 1 ≤ y) (hb : y < 18446744073709551616) : Lib.bitLen y = y.log2 + 1 := by
  have h1 := Nat.log2_self_le (n := y) (by omega)
  have h2 := Nat.lt_log2_self (n := y)
  rw [Lib.bitLen_shift y.log2 y h1 hb]
  have : y / 2 ^ y.log2 = 1 := by
    have a : y / 2 ^ y.log2 < 2 := by rw [Nat.div_lt_iff_lt_mul (Nat.two_pow_pos _)]; rw [Nat.pow_succ] at h2; omega
    have b : 1 ≤ y / 2 ^ y.log2 := by rw [Nat.le_div_iff_mul_le (Nat.two_pow_pos _)]; omega
    omega
  rw [this]
  rfl
theorem norm_shift (y : Nat) (h : 1 ≤ y) (hb : y < 18446744073709551616) : ∃ s : Nat, s ≤ 63 ∧ 9223372036854775808 ≤ y * 2 ^ s ∧ y * 2 ^ s < 18446744073709551616 ∧ (64 - (Lib.bitLen y : Int)) = (s : Int) := by
  have h1 := Nat.log2_self_le (n := y) (by omega)
  have h2 := Nat.lt_log2_self (n := y)
  have h3 : y.log2 < 64 := (Nat.log2_lt (by omega)).2 hb
  refine ⟨63 - y.log2, by omega, ?_, ?_, by rw [bitLen_log y h hb]; omega⟩
  · have := Nat.mul_le_mul_right (2 ^ (63 - y.log2)) h1
    rw [← Nat.pow_add, show y.log2 + (63 - y.log2) = 63 by omega] at this
    exact this
  · have := (Nat.mul_lt_mul_right (Nat.two_pow_pos (63 - y.log2))).2 h2
    rw [← Nat.pow_add, show y.log2 + 1 + (63 - y.log2) = 64 by omega] at this
    exact this

theorem split32 (a : Nat) : a / 4294967296 * 4294967296 + a % 4294967296 = a := by omega
theorem wrap_nat (a b : Nat) (h : a % 18446744073709551616 = b) : IntKind.u64.wrap (a : Int) = (b : Int) := by rw [IntKind.wrap_u64]; omega
theorem wrap_mul (a b c : Nat) (h : a * b % 18446744073709551616 = c) : IntKind.u64.wrap ((a : Int) * (b : Int)) = (c : Int) := by rw [← Int.natCast_mul]; exact wrap_nat _ _ h
theorem wrap_shl (a s c : Nat) (h : a * 2 ^ s % 18446744073709551616 = c) : IntKind.u64.wrap ((a : Int) * 2 ^ s) = (c : Int) := by
  rw [show ((a : Int) * 2 ^ s) = ((a * 2 ^ s : Nat) : Int) by simp]; exact wrap_nat _ _ h

theorem sub_digit (u n N P v A1 A2 A3 : Nat) (hN : N = u * 4294967296 + n) (hP : P + v = N) (hv : v < 18446744073709551616) (h1 : A1 = u * 4294967296 % 18446744073709551616)
    (h2 : A2 = (A1 + n) % 18446744073709551616) (h3 : A3 = P % 18446744073709551616) : IntKind.u64.wrap ((A2 : Int) - (A3 : Int)) = (v : Int) := by
  rw [IntKind.wrap_u64]
  omega

/-- What the loop that corrects a digit leaves: the digit. -/
def DigitRel (y1 y0 u n : Nat) (wr : World) (w0 : World) (q r : Value) : Prop :=
  ∃ a b : Nat, q = .int .u64 a ∧ r = .int .u64 b ∧ a ≤ 4294967297 ∧ b < 4294967296 ∧ Hid (a * y1 + b = u) ∧ Hid ((u * 4294967296 + n) / (y1 * 4294967296 + y0) ≤ a) ∧ Hid (wr = w0)

set_option maxHeartbeats 1000000 in
set_option maxRecDepth 100000 in
theorem div64_big (hi lo y : Nat) (h0 : 1 ≤ hi) (hy : hi < y) (hlo : lo < 18446744073709551616) (hyb : y < 18446744073709551616) (w : World) :
    Calls Try.prog 13 #[.int .u64 hi, .int .u64 lo, .int .u64 y] w fun e w' => e = .returned (.tuple #[.int .u64 (((hi * 18446744073709551616 + lo) / y : Nat) : Int), .int .u64 (((hi * 18446744073709551616 + lo) % y : Nat) : Int)]) ∧ ∃ n, w' = w.drewN n := by
  have h1 : ((y : Int) == 0) = false := by simp; omega
  have h2 : ¬ (y : Int) ≤ (hi : Int) := by omega
  have h3 : ((hi : Int) == 0) = false := by simp; omega
  obtain ⟨s, hs, hb1, hb2, hbl⟩ := norm_shift y (by omega) hyb
  have HBL := Lib.hid hbl
  clear hbl
  obtain ⟨hH, hor, hu, hN⟩ := Vp.shift_words hi lo y s hs hy hb2 hlo
  have hsc := Vp.scaled (hi * 18446744073709551616 + lo) y s
  rw [← hN] at hsc
  obtain ⟨Y, hY⟩ : ∃ Y, Y = y * 2 ^ s := ⟨_, rfl⟩
  obtain ⟨H, hHe⟩ : ∃ H, H = hi * 2 ^ s := ⟨_, rfl⟩
  obtain ⟨l1, hl1⟩ : ∃ l1, l1 = lo / 2 ^ (64 - s) := ⟨_, rfl⟩
  obtain ⟨L, hL⟩ : ∃ L, L = lo * 2 ^ s % 18446744073709551616 := ⟨_, rfl⟩
  rw [← hY] at hb1 hb2 hu hsc
  rw [← hHe] at hH hor hu hsc
  rw [← hl1] at hor hu hsc
  rw [← hL] at hsc
  obtain ⟨u, hue⟩ : ∃ u, u = H + l1 := ⟨_, rfl⟩
  rw [← hue] at hor hu hsc
  have hl1b : l1 ≤ lo := by rw [hl1]; exact Nat.div_le_self _ _
  have eY : IntKind.u64.wrap ((y : Int) * 2 ^ s) = (Y : Int) := wrap_shl _ _ _ (by rw [← hY]; omega)
  have eH : IntKind.u64.wrap ((hi : Int) * 2 ^ s) = (H : Int) := wrap_shl _ _ _ (by rw [← hHe]; omega)
  have eL : IntKind.u64.wrap ((lo : Int) * 2 ^ s) = (L : Int) := wrap_shl _ _ _ hL.symm
  have el1 : (lo : Int) / 2 ^ (64 - s) = (l1 : Int) := by rw [hl1]; simp
  have eU : bits .or .u64 (H : Int) (l1 : Int) = (u : Int) := by rw [bits_or_u64_nat H l1 hH (by omega), hor]
  have hLb : L < 18446744073709551616 := by rw [hL]; exact Nat.mod_lt _ (by omega)
  obtain ⟨y1, hy1⟩ : ∃ y1, y1 = Y / 4294967296 := ⟨_, rfl⟩
  obtain ⟨y0, hy0⟩ : ∃ y0, y0 = Y % 4294967296 := ⟨_, rfl⟩
  obtain ⟨n1, hn1⟩ : ∃ n1, n1 = L / 4294967296 := ⟨_, rfl⟩
  obtain ⟨n0, hn0⟩ : ∃ n0, n0 = L % 4294967296 := ⟨_, rfl⟩
  have ey1 : (Y : Int) / 4294967296 = (y1 : Int) := by rw [hy1]; simp
  have en1 : (L : Int) / 4294967296 = (n1 : Int) := by rw [hn1]; simp
  have ey0 : bits .and .u64 (Y : Int) 4294967295 = (y0 : Int) := (Mul64.maskN Y hb2).trans (by rw [← hy0])
  have en0 : bits .and .u64 (L : Int) 4294967295 = (n0 : Int) := (Mul64.maskN L hLb).trans (by rw [← hn0])
  have hYe : y1 * 4294967296 + y0 = Y := by rw [hy1, hy0]; exact split32 Y
  have hLe : n1 * 4294967296 + n0 = L := by rw [hn1, hn0]; exact split32 L
  have by1 : 2147483648 ≤ y1 := by omega
  have by1' : y1 < 4294967296 := by omega
  have by0 : y0 < 4294967296 := by omega
  have bn1 : n1 < 4294967296 := by omega
  have bn0 : n0 < 4294967296 := by omega
  have bu : u < y1 * 4294967296 + y0 := by omega
  -- the first digit
  have hg := Vp.digit_guess y1 y0 u n1 by1 by0 bu bn1
  obtain ⟨g, hge⟩ : ∃ g, g = u / y1 := ⟨_, rfl⟩
  obtain ⟨r, hre⟩ : ∃ r, r = u % y1 := ⟨_, rfl⟩
  obtain ⟨p, hp⟩ : ∃ p, p = g * y1 := ⟨_, rfl⟩
  have hgr : g * y1 + r = u := by rw [hge, hre, Nat.mul_comm]; exact Nat.div_add_mod u y1
  have hrb : r < y1 := by rw [hre]; exact Nat.mod_lt _ (by omega)
  rw [← hge] at hg
  have eg : (u : Int) / (y1 : Int) = (g : Int) := by rw [hge]; simp
  have ep : IntKind.u64.wrap ((g : Int) * (y1 : Int)) = (p : Int) := wrap_mul _ _ _ (by omega)
  have er : (u : Int) - (p : Int) = (r : Int) := by omega
  have pu : p ≤ u := by omega
  have hg1 := hg.1
  have hg2 := hg.2
  have HG1 := Lib.hid hg1
  have HGR := Lib.hid hgr
  have HSC := Lib.hid hsc
  have HYE := Lib.hid hYe
  have HLE := Lib.hid hLe
  clear hg hg1 hgr hge hre hp hsc hYe hLe hY hHe hl1 hL hor hue hy1 hy0 hn1 hn0 hN
  go_enter Try.func13, Try.ntmps13
  go_wp2_with fail
  refine (Try.bits_LeadingZeros64 _ _ (by omega) (by omega)).mono ?_
  rintro e w' ⟨rfl, rfl⟩
  rw [show (y : Int).toNat = y from rfl, HBL.out]
  clear HBL
  obtain ⟨Q, hQ⟩ : ∃ Q, Q = (u * 4294967296 + n1) / (y1 * 4294967296 + y0) := ⟨_, rfl⟩
  rw [← hQ] at HG1
  have HQ := Lib.hid hQ
  clear hQ
  go_upto_block 0 with (fail)
  go_cut [15, 16] (fun s15 _ wx => s15 = .int .u64 (Q : Int) ∧ Hid (wx = w'))
  case first =>
    clear eY eH eL el1 eU ey1 en1 ey0 en0 eg ep er pu
    go_wp2_with fail
    go_loop [15, 16] (fun q r => ∃ a b : Nat, q = .int .u64 a ∧ r = .int .u64 b ∧ a ≤ 4294967297 ∧ b < 4294967296 ∧ Hid (a * y1 + b = u) ∧ Hid (Q ≤ a)) (fun q _ => (intOf q).toNat)
    case atStart => exact ⟨g, r, rfl, rfl, hg2, by omega, HGR, HG1⟩
    case round =>
      obtain ⟨a, b, rfl, rfl, ba, bb, HA, HQA⟩ := hrel
      obtain ⟨c, hc⟩ : ∃ c, c = a * y0 := ⟨_, rfl⟩
      have hcl : c ≤ 18446744073709551615 := by rw [hc]; exact Nat.mul_le_mul ba (show y0 ≤ 4294967295 by omega)
      have ec : IntKind.u64.wrap ((a : Int) * (y0 : Int)) = (c : Int) := wrap_mul _ _ _ (by rw [← hc]; omega)
      by_cases t1 : 4294967296 ≤ a
      · have more := Vp.digit_more a y1 y0 u n1 b (by omega) bu bn1 HA.out (.inl t1)
        have g1 : decide ((4294967296 : Int) ≤ (a : Int)) = true := decide_eq_true (by omega)
        rw [← HQ.out] at more
        have hpm := Lib.hid (Vp.pred_mul a y1 b u HA.out (by omega))
        by_cases hbr : 4294967296 ≤ b + y1
        · have g3 : decide ((4294967296 : Int) ≤ (b : Int) + (y1 : Int)) = true := decide_eq_true (by omega)
          have fin := Lib.hid (Vp.digit_break (a - 1) y1 y0 u n1 (b + y1) (by omega) (by omega) hpm.out (by rw [← HQ.out]; omega) (by omega) hbr)
          clear hc
          go_wp2
          go_meet
          exact ⟨by rw [HQ.out, ← fin.out]; go_num, rfl⟩
        · have g3 : decide ((4294967296 : Int) ≤ (b : Int) + (y1 : Int)) = false := decide_eq_false (by omega)
          clear hc
          go_wp2
          go_round
          case rel => exact ⟨a - 1, b + y1, by go_num, by go_num, by omega, by omega, hpm, show Q ≤ a - 1 by omega⟩
          case measure => simp [intOf]; omega
      · have g1 : decide ((4294967296 : Int) ≤ (a : Int)) = false := decide_eq_false (by omega)
        by_cases t2 : b * 4294967296 + n1 < c
        · have g2 : decide (4294967296 * (b : Int) + (n1 : Int) < (c : Int)) = true := decide_eq_true (by omega)
          have more := Vp.digit_more a y1 y0 u n1 b (by omega) bu bn1 HA.out (.inr (by rw [← hc]; exact t2))
          rw [← HQ.out] at more
          have hpm := Lib.hid (Vp.pred_mul a y1 b u HA.out (by omega))
          by_cases hbr : 4294967296 ≤ b + y1
          · have g3 : decide ((4294967296 : Int) ≤ (b : Int) + (y1 : Int)) = true := decide_eq_true (by omega)
            have fin := Lib.hid (Vp.digit_break (a - 1) y1 y0 u n1 (b + y1) (by omega) (by omega) hpm.out (by rw [← HQ.out]; omega) (by omega) hbr)
            clear hc
            go_wp2
            go_meet
            exact ⟨by rw [HQ.out, ← fin.out]; go_num, rfl⟩
          · have g3 : decide ((4294967296 : Int) ≤ (b : Int) + (y1 : Int)) = false := decide_eq_false (by omega)
            clear hc
            go_wp2
            go_round
            case rel => exact ⟨a - 1, b + y1, by go_num, by go_num, by omega, by omega, hpm, show Q ≤ a - 1 by omega⟩
            case measure => simp [intOf]; omega
        · have g2 : decide (4294967296 * (b : Int) + (n1 : Int) < (c : Int)) = false := decide_eq_false (by omega)
          have fin := Lib.hid (Vp.digit_done a y1 y0 u n1 b (by omega) HA.out (by rw [← HQ.out]; exact HQA.out) (by rw [← hc]; omega))
          clear hc
          go_wp2
          go_meet
          exact ⟨by rw [HQ.out, ← fin.out], rfl⟩
  case rest =>
    obtain ⟨rfl, HW⟩ := hcut
    clear eY eH eL el1 eU ey1 en1 ey0 en0 eg ep er pu hg2 hrb HG1 HGR
    obtain ⟨N, hNe⟩ : ∃ N, N = u * 4294967296 + n1 := ⟨_, rfl⟩
    have hQ := HQ.out
    rw [HYE.out, ← hNe] at hQ
    have hQb : Q < 4294967296 := by have := Vp.digit_lt y1 y0 u n1 bu bn1; rw [HYE.out, ← hNe, ← hQ] at this; exact this
    obtain ⟨v, hv⟩ : ∃ v, v = N % Y := ⟨_, rfl⟩
    obtain ⟨P, hP⟩ : ∃ P, P = Q * Y := ⟨_, rfl⟩
    have hPv : P + v = N := by rw [hP, hv, hQ, Nat.mul_comm]; exact Nat.div_add_mod N Y
    have hvY : v < Y := by rw [hv]; exact Nat.mod_lt _ (by omega)
    obtain ⟨A1, hA1⟩ : ∃ A1, A1 = u * 4294967296 % 18446744073709551616 := ⟨_, rfl⟩
    obtain ⟨A2, hA2⟩ : ∃ A2, A2 = (A1 + n1) % 18446744073709551616 := ⟨_, rfl⟩
    obtain ⟨A3, hA3⟩ : ∃ A3, A3 = P % 18446744073709551616 := ⟨_, rfl⟩
    have eA1 : IntKind.u64.wrap ((u : Int) * 4294967296) = (A1 : Int) := wrap_mul _ _ _ hA1.symm
    have eA2 : IntKind.u64.wrap ((A1 : Int) + (n1 : Int)) = (A2 : Int) := by rw [← Int.natCast_add]; exact wrap_nat _ _ hA2.symm
    have eA3 : IntKind.u64.wrap ((Q : Int) * (Y : Int)) = (A3 : Int) := wrap_mul _ _ _ (by rw [← hP]; exact hA3.symm)
    have eA4 : IntKind.u64.wrap ((A2 : Int) - (A3 : Int)) = (v : Int) := sub_digit u n1 N P v A1 A2 A3 hNe hPv (by omega) hA1 hA2 hA3
    have bv : v < y1 * 4294967296 + y0 := by rw [HYE.out]; exact hvY
    have hg' := Vp.digit_guess y1 y0 v n0 by1 by0 bv bn0
    obtain ⟨g', hge'⟩ : ∃ g', g' = v / y1 := ⟨_, rfl⟩
    obtain ⟨r', hre'⟩ : ∃ r', r' = v % y1 := ⟨_, rfl⟩
    obtain ⟨p', hp'⟩ : ∃ p', p' = g' * y1 := ⟨_, rfl⟩
    have hgr' : g' * y1 + r' = v := by rw [hge', hre', Nat.mul_comm]; exact Nat.div_add_mod v y1
    have hrb' : r' < y1 := by rw [hre']; exact Nat.mod_lt _ (by omega)
    rw [← hge'] at hg'
    obtain ⟨Q2, hQ2⟩ : ∃ Q2, Q2 = (v * 4294967296 + n0) / (y1 * 4294967296 + y0) := ⟨_, rfl⟩
    have eg' : (v : Int) / (y1 : Int) = (g' : Int) := by rw [hge']; simp
    have ep' : IntKind.u64.wrap ((g' : Int) * (y1 : Int)) = (p' : Int) := wrap_mul _ _ _ (by omega)
    have er' : (v : Int) - (p' : Int) = (r' : Int) := by omega
    have pu' : p' ≤ v := by omega
    have hg1' := hg'.1
    have hg2' := hg'.2
    rw [← hQ2] at hg1'
    have HG1' := Lib.hid hg1'
    have HGR' := Lib.hid hgr'
    have HQ2 := Lib.hid hQ2
    have HQN := Lib.hid hQ
    have HV := Lib.hid hv
    have HN := Lib.hid hNe
    clear hNe hQ hv hP hPv hA1 hA2 hA3 hg' hge' hre' hp' hgr' hg1' hQ2
    go_upto_block 2 with (fail)
    go_cut [18, 16] (fun s18 _ wx => s18 = .int .u64 (Q2 : Int) ∧ Hid (wx = wc))
    case first =>
      clear eA1 eA2 eA3 eA4 eg' ep' er' pu'
      go_wp2_with fail
      go_loop [18, 16] (fun q r => ∃ a b : Nat, q = .int .u64 a ∧ r = .int .u64 b ∧ a ≤ 4294967297 ∧ b < 4294967296 ∧ Hid (a * y1 + b = v) ∧ Hid (Q2 ≤ a)) (fun q _ => (intOf q).toNat)
      case atStart => exact ⟨g', r', rfl, rfl, hg2', by omega, HGR', HG1'⟩
      case round =>
        obtain ⟨a, b, rfl, rfl, ba, bb, HA, HQA⟩ := hrel
        obtain ⟨c, hc⟩ : ∃ c, c = a * y0 := ⟨_, rfl⟩
        have hcl : c ≤ 18446744073709551615 := by rw [hc]; exact Nat.mul_le_mul ba (show y0 ≤ 4294967295 by omega)
        have ec : IntKind.u64.wrap ((a : Int) * (y0 : Int)) = (c : Int) := wrap_mul _ _ _ (by rw [← hc]; omega)
        by_cases t1 : 4294967296 ≤ a
        · have more := Vp.digit_more a y1 y0 v n0 b (by omega) bv bn0 HA.out (.inl t1)
          have g1 : decide ((4294967296 : Int) ≤ (a : Int)) = true := decide_eq_true (by omega)
          rw [← HQ2.out] at more
          have hpm := Lib.hid (Vp.pred_mul a y1 b v HA.out (by omega))
          by_cases hbr : 4294967296 ≤ b + y1
          · have g3 : decide ((4294967296 : Int) ≤ (b : Int) + (y1 : Int)) = true := decide_eq_true (by omega)
            have fin := Lib.hid (Vp.digit_break (a - 1) y1 y0 v n0 (b + y1) (by omega) (by omega) hpm.out (by rw [← HQ2.out]; omega) (by omega) hbr)
            clear hc
            go_wp2
            go_meet
            exact ⟨by rw [HQ2.out, ← fin.out]; go_num, rfl⟩
          · have g3 : decide ((4294967296 : Int) ≤ (b : Int) + (y1 : Int)) = false := decide_eq_false (by omega)
            clear hc
            go_wp2
            go_round
            case rel => exact ⟨a - 1, b + y1, by go_num, by go_num, by omega, by omega, hpm, show Q2 ≤ a - 1 by omega⟩
            case measure => simp [intOf]; omega
        · have g1 : decide ((4294967296 : Int) ≤ (a : Int)) = false := decide_eq_false (by omega)
          by_cases t2 : b * 4294967296 + n0 < c
          · have g2 : decide (4294967296 * (b : Int) + (n0 : Int) < (c : Int)) = true := decide_eq_true (by omega)
            have more := Vp.digit_more a y1 y0 v n0 b (by omega) bv bn0 HA.out (.inr (by rw [← hc]; exact t2))
            rw [← HQ2.out] at more
            have hpm := Lib.hid (Vp.pred_mul a y1 b v HA.out (by omega))
            by_cases hbr : 4294967296 ≤ b + y1
            · have g3 : decide ((4294967296 : Int) ≤ (b : Int) + (y1 : Int)) = true := decide_eq_true (by omega)
              have fin := Lib.hid (Vp.digit_break (a - 1) y1 y0 v n0 (b + y1) (by omega) (by omega) hpm.out (by rw [← HQ2.out]; omega) (by omega) hbr)
              clear hc
              go_wp2
              go_meet
              exact ⟨by rw [HQ2.out, ← fin.out]; go_num, rfl⟩
            · have g3 : decide ((4294967296 : Int) ≤ (b : Int) + (y1 : Int)) = false := decide_eq_false (by omega)
              clear hc
              go_wp2
              go_round
              case rel => exact ⟨a - 1, b + y1, by go_num, by go_num, by omega, by omega, hpm, show Q2 ≤ a - 1 by omega⟩
              case measure => simp [intOf]; omega
          · have g2 : decide (4294967296 * (b : Int) + (n0 : Int) < (c : Int)) = false := decide_eq_false (by omega)
            have fin := Lib.hid (Vp.digit_done a y1 y0 v n0 b (by omega) HA.out (by rw [← HQ2.out]; exact HQA.out) (by rw [← hc]; omega))
            clear hc
            go_wp2
            go_meet
            exact ⟨by rw [HQ2.out, ← fin.out], rfl⟩
    case rest =>
      obtain ⟨rfl, HW2⟩ := hcut
      clear eA1 eA2 eA3 eA4 eg' ep' er' pu' hg2' hrb' HG1' HGR'
      obtain ⟨N2, hN2e⟩ : ∃ N2, N2 = v * 4294967296 + n0 := ⟨_, rfl⟩
      have hQ2 := HQ2.out
      rw [HYE.out, ← hN2e] at hQ2
      have hQ2b : Q2 < 4294967296 := by have := Vp.digit_lt y1 y0 v n0 bv bn0; rw [HYE.out, ← hN2e, ← hQ2] at this; exact this
      obtain ⟨v2, hv2⟩ : ∃ v2, v2 = N2 % Y := ⟨_, rfl⟩
      obtain ⟨P2, hP2⟩ : ∃ P2, P2 = Q2 * Y := ⟨_, rfl⟩
      have hPv2 : P2 + v2 = N2 := by rw [hP2, hv2, hQ2, Nat.mul_comm]; exact Nat.div_add_mod N2 Y
      have hvY2 : v2 < Y := by rw [hv2]; exact Nat.mod_lt _ (by omega)
      obtain ⟨B1, hB1⟩ : ∃ B1, B1 = v * 4294967296 % 18446744073709551616 := ⟨_, rfl⟩
      obtain ⟨B2, hB2⟩ : ∃ B2, B2 = (B1 + n0) % 18446744073709551616 := ⟨_, rfl⟩
      obtain ⟨B3, hB3⟩ : ∃ B3, B3 = P2 % 18446744073709551616 := ⟨_, rfl⟩
      have eB1 : IntKind.u64.wrap ((v : Int) * 4294967296) = (B1 : Int) := wrap_mul _ _ _ hB1.symm
      have eB2 : IntKind.u64.wrap ((B1 : Int) + (n0 : Int)) = (B2 : Int) := by rw [← Int.natCast_add]; exact wrap_nat _ _ hB2.symm
      have eB3 : IntKind.u64.wrap ((Q2 : Int) * (Y : Int)) = (B3 : Int) := wrap_mul _ _ _ (by rw [← hP2]; exact hB3.symm)
      have eB4 : IntKind.u64.wrap ((B2 : Int) - (B3 : Int)) = (v2 : Int) := sub_digit v n0 N2 P2 v2 B1 B2 B3 hN2e hPv2 (by omega) hB1 hB2 hB3
      have two := Vp.two_digits 4294967296 N n0 Y (by omega)
      rw [← HV.out, ← hN2e, ← HQN.out, ← hQ2, ← hv2] at two
      have hNL : N * 4294967296 + n0 = u * 18446744073709551616 + L := by rw [HN.out, ← HLE.out]; omega
      rw [hNL] at two
      have hsc := HSC.out
      rw [← two.1, ← two.2] at hsc
      have HSCN := Lib.hid hsc
      clear hN2e hQ2 hv2 hP2 hPv2 hB1 hB2 hB3 two hNL hsc
      go_wp2_with fail
      go_ret2
      exact ⟨by rw [← HSCN.out.1, ← HSCN.out.2]; simp, 0, by rw [HW2.out, HW.out]; rfl⟩
end Go.Proofs.Ytiibgimanfkhdaa
