/- THE CONTRACTS of the small functions below the valuation laws: bounds, absolute values, greatest common divisors, the check of a fraction. -/
import Derived.Test.YtiibgimanfkhdaaRows
import Derived.Test.YtiibgimanfkhdaaShelf
import Derived.Test.YtiibgimanfkhdaaPlain
import Derived.WalkKit
import Derived.WalkSpells
import Derived.WalkLawsBesides
import Derived.Lib.Hide
import Derived.BigQuiet
import Derived.Deep.QuietTactic
namespace Go.Proofs.Ytiibgimanfkhdaa
open Go.RowKit

theorem bcell {W w1 : World} (hb : Below W.heap.size W w1) : (∀ b o, b < W.heap.size → w1.cell? ⟨b, o, none⟩ = W.cell? ⟨b, o, none⟩) ∧ (∀ b o, b < W.heap.size → w1.frozen? ⟨b, o, none⟩ = W.frozen? ⟨b, o, none⟩) :=
  ⟨fun b o h => hb.cell (p := ⟨b, o, none⟩) h, fun b o h => hb.frozen (p := ⟨b, o, none⟩) h⟩

theorem ret_int {k : IntKind} {a b : Int} (h : a = b) : Ending.returned (.int k a) = .returned (.int k b) := by rw [h]
-- girolaw33.of
set_option maxHeartbeats 400000 in
theorem of_any (n d : Int) (w : World) :
    Calls Try.prog 6 #[.agg #[.int .i64 n, .int .i64 d]] w fun e w' => e = .returned (.agg #[.int .i64 n, .int .i64 d]) ∧ Below w.heap.size w w' := by
  go_enter Try.func6, Try.ntmps6
  go_wp2
  exact bodyPost_ret (v := .agg #[.int .i64 n, .int .i64 d]) (by simp [results, Try.results6, go_sem]) rfl ⟨rfl, ((Below.refl _ _).alloc (Nat.le_refl _) _).alloc (by simp) _⟩

-- valuation.within
set_option maxHeartbeats 400000 in
theorem within_yes (x lo hi : Int) (h1 : lo ≤ x) (h2 : x ≤ hi) (w : World) :
    Calls Try.prog 10 #[.int .i64 x, .int .i64 lo, .int .i64 hi] w fun e w' => e = .returned (.bool true) ∧ w = w' := by
  go_enter Try.func10, Try.ntmps10
  go_wp2
  go_ret
  exact ⟨rfl, rfl⟩
set_option maxHeartbeats 400000 in
theorem within_no (x lo hi : Int) (h : x < lo ∨ hi < x) (w : World) :
    Calls Try.prog 10 #[.int .i64 x, .int .i64 lo, .int .i64 hi] w fun e w' => e = .returned (.bool false) ∧ w = w' := by
  by_cases h1 : lo ≤ x
  · have h2 : ¬ x ≤ hi := by omega
    go_enter Try.func10, Try.ntmps10
    go_wp2
    go_ret
    exact ⟨rfl, rfl⟩
  · go_enter Try.func10, Try.ntmps10
    go_wp2
    go_ret
    exact ⟨rfl, rfl⟩

-- giroref02.gcd
set_option maxHeartbeats 400000 in
theorem gcd_ref (a b : Nat) (ha : a < 18446744073709551616) (hb : b < 18446744073709551616) (w : World) :
    Calls Try.prog 20 #[.int .u64 a, .int .u64 b] w fun e w' => e = .returned (.int .u64 ((Nat.gcd a b : Nat) : Int)) ∧ ∃ n, w' = w.drewN n := by
  go_enter Try.func20, Try.ntmps20
  go_wp2_with fail
  go_loopw [0, 1] (fun u v wr => ∃ x y m : Nat, x < 18446744073709551616 ∧ y < 18446744073709551616 ∧ u = .int .u64 x ∧ v = .int .u64 y ∧ Hid (Nat.gcd x y = Nat.gcd a b) ∧ Hid (wr = w.drewN m)) (fun _ v _ => (intOf v).toNat)
  case atStart => exact ⟨a, b, 0, ha, hb, rfl, rfl, rfl, rfl⟩
  case round =>
    obtain ⟨x, y, m, hx, hy, rfl, rfl, HG, HW⟩ := hrel
    by_cases h0 : y = 0
    · subst h0
      go_wp2
      go_ret
      exact ⟨by have := HG.out; rw [Nat.gcd_zero_right] at this; rw [← this]; rfl, m, HW.out⟩
    · have t1 : ((y : Int) != 0) = true := by simp; omega
      have t2 : (1 : Int) ≤ (y : Int) := by omega
      go_wp2
      go_quiet (fail)
      go_wp2
      go_roundw
      case rel => exact ⟨y, x % y, m + nq, hy, by have := Nat.mod_lt x (show y > 0 by omega); omega, rfl, by rw [Int.natCast_emod], (Vp.gcd_round x y).trans HG.out, by have := HW.out; subst this; show _ = _; rw [World.drewN_drewN]⟩
      case measure => have := Nat.mod_lt x (show y > 0 by omega); simp [intOf]; omega
-- giroref02.size
set_option maxHeartbeats 400000 in
theorem size_any (a : Int) (h1 : -9223372036854775808 ≤ a) (h2 : a ≤ 9223372036854775807) (w : World) :
    Calls Try.prog 21 #[.int .i64 a] w fun e w' => e = .returned (.int .u64 ((a.natAbs : Nat) : Int)) ∧ w = w' := by
  by_cases h : a < 0
  · go_enter Try.func21, Try.ntmps21
    go_wp2
    go_ret
    exact ⟨ret_int (by omega), rfl⟩
  · go_enter Try.func21, Try.ntmps21
    go_wp2
    go_ret
    exact ⟨ret_int (by omega), rfl⟩
set_option maxHeartbeats 400000 in
theorem magnitude_neg (a : Int) (h1 : -9223372036854775808 ≤ a) (h : a < 0) (w : World) :
    Calls Try.prog 22 #[.int .i64 a] w fun e w' => e = .returned (.tuple #[.int .u64 ((a.natAbs : Nat) : Int), .bool true]) ∧ w = w' := by
  have e1 : IntKind.u64.wrap (-IntKind.u64.wrap a) = ((a.natAbs : Nat) : Int) := by rw [IntKind.wrap_u64, IntKind.wrap_u64]; omega
  have E1 := Lib.hid e1
  clear e1
  go_enter Try.func22, Try.ntmps22
  go_wp2
  go_ret2
  exact ⟨by rw [← E1.out]; rfl, rfl⟩
set_option maxHeartbeats 400000 in
theorem magnitude_pos (a : Int) (h2 : a ≤ 9223372036854775807) (h : 0 ≤ a) (w : World) :
    Calls Try.prog 22 #[.int .i64 a] w fun e w' => e = .returned (.tuple #[.int .u64 ((a.natAbs : Nat) : Int), .bool false]) ∧ w = w' := by
  go_enter Try.func22, Try.ntmps22
  go_wp2
  go_ret2
  exact ⟨by rw [show ((a.natAbs : Nat) : Int) = a by omega]; rfl, rfl⟩
theorem magnitude_any (a : Int) (h1 : -9223372036854775808 ≤ a) (h2 : a ≤ 9223372036854775807) (w : World) :
    Calls Try.prog 22 #[.int .i64 a] w fun e w' => e = .returned (.tuple #[.int .u64 ((a.natAbs : Nat) : Int), .bool (decide (a < 0))]) ∧ w = w' := by
  by_cases h : a < 0
  · rw [decide_eq_true h]; exact magnitude_neg a h1 h w
  · rw [decide_eq_false h]; exact magnitude_pos a h2 (by omega) w

-- fraction.gcd
set_option maxHeartbeats 400000 in
theorem gcd_own (a b : Nat) (ha : a < 18446744073709551616) (hb : b < 18446744073709551616) (w : World) :
    Calls Try.prog 23 #[.int .u64 a, .int .u64 b] w fun e w' => e = .returned (.int .u64 ((Nat.gcd a b : Nat) : Int)) ∧ ∃ n, w' = w.drewN n := by
  go_enter Try.func23, Try.ntmps23
  go_wp2_with fail
  go_loopw [0, 1] (fun u v wr => ∃ x y m : Nat, x < 18446744073709551616 ∧ y < 18446744073709551616 ∧ u = .int .u64 x ∧ v = .int .u64 y ∧ Hid (Nat.gcd x y = Nat.gcd a b) ∧ Hid (wr = w.drewN m)) (fun _ v _ => (intOf v).toNat)
  case atStart => exact ⟨a, b, 0, ha, hb, rfl, rfl, rfl, rfl⟩
  case round =>
    obtain ⟨x, y, m, hx, hy, rfl, rfl, HG, HW⟩ := hrel
    by_cases h0 : y = 0
    · subst h0
      go_wp2
      go_ret
      exact ⟨by have := HG.out; rw [Nat.gcd_zero_right] at this; rw [← this]; rfl, m, HW.out⟩
    · have t1 : ((y : Int) != 0) = true := by simp; omega
      have t2 : (1 : Int) ≤ (y : Int) := by omega
      go_wp2
      go_quiet (fail)
      go_wp2
      go_roundw
      case rel => exact ⟨y, x % y, m + nq, hy, by have := Nat.mod_lt x (show y > 0 by omega); omega, rfl, by rw [Int.natCast_emod], (Vp.gcd_round x y).trans HG.out, by have := HW.out; subst this; show _ = _; rw [World.drewN_drewN]⟩
      case measure => have := Nat.mod_lt x (show y > 0 by omega); simp [intOf]; omega

-- giroref02.Check
set_option maxHeartbeats 400000 in
theorem chk_ref (n d : Int) (w : World) :
    Calls Try.prog 17 #[.agg #[.int .i64 n, .int .i64 d]] w fun e w' => e = .returned (.int .i64 (Vp.chk n d)) ∧ Below w.heap.size w w' := by
  by_cases h1 : d < 1
  · have E : Hid (Vp.chk n d = 2) := by show _ = _; unfold Vp.chk; rw [if_pos (by omega)]
    go_enter Try.func17, Try.ntmps17
    go_wp2
    go_ret
    exact ⟨ret_int E.out.symm, (Below.refl _ _).alloc (Nat.le_refl _) _⟩
  by_cases h2 : 1000000000 < d
  · have E : Hid (Vp.chk n d = 2) := by show _ = _; unfold Vp.chk; rw [if_pos (by omega)]
    go_enter Try.func17, Try.ntmps17
    go_wp2
    go_ret
    exact ⟨ret_int E.out.symm, (Below.refl _ _).alloc (Nat.le_refl _) _⟩
  by_cases h3 : n < -1000000000
  · have E : Hid (Vp.chk n d = 2) := by show _ = _; unfold Vp.chk; rw [if_pos (by omega)]
    go_enter Try.func17, Try.ntmps17
    go_wp2
    go_ret
    exact ⟨ret_int E.out.symm, (Below.refl _ _).alloc (Nat.le_refl _) _⟩
  by_cases h4 : 1000000000 < n
  · have E : Hid (Vp.chk n d = 2) := by show _ = _; unfold Vp.chk; rw [if_pos (by omega)]
    go_enter Try.func17, Try.ntmps17
    go_wp2
    go_ret
    exact ⟨ret_int E.out.symm, (Below.refl _ _).alloc (Nat.le_refl _) _⟩
  have E0 : Hid (Vp.chk n d = if Nat.gcd n.natAbs d.natAbs = 1 then 0 else 3) := by show _ = _; unfold Vp.chk; rw [if_neg (by omega)]
  obtain ⟨d, rfl⟩ := Int.eq_ofNat_of_zero_le (show 0 ≤ d by omega)
  have b1 : n.natAbs < 18446744073709551616 := by omega
  have b2 : d < 18446744073709551616 := by omega
  by_cases hg : Nat.gcd n.natAbs d = 1
  · have E : Hid (Vp.chk n d = 0) := by have := E0.out; show _ = _; rw [this, if_pos (by simpa using hg)]
    have t : (((Nat.gcd n.natAbs d : Nat) : Int) != 1) = false := by rw [hg]; rfl
    clear hg E0
    go_enter Try.func17, Try.ntmps17
    go_wp2
    go_quiet (first | (go_at_call 21; exact Calls.quiet_of_same ((size_any n (by omega) (by omega) _).mono fun _ _ h => ⟨h.1, h.2.symm⟩)) | (go_at_call 20; exact Calls.quiet_of (gcd_ref n.natAbs d b1 b2 _)))
    go_wp2
    go_ret
    exact ⟨ret_int E.out.symm, below_drewN ((Below.refl _ _).alloc (Nat.le_refl _) _) _⟩
  · have E : Hid (Vp.chk n d = 3) := by have := E0.out; show _ = _; rw [this, if_neg (by simpa using hg)]
    have t : (((Nat.gcd n.natAbs d : Nat) : Int) != 1) = true := by simp; omega
    clear hg E0
    go_enter Try.func17, Try.ntmps17
    go_wp2
    go_quiet (first | (go_at_call 21; exact Calls.quiet_of_same ((size_any n (by omega) (by omega) _).mono fun _ _ h => ⟨h.1, h.2.symm⟩)) | (go_at_call 20; exact Calls.quiet_of (gcd_ref n.natAbs d b1 b2 _)))
    go_wp2
    go_ret
    exact ⟨ret_int E.out.symm, below_drewN ((Below.refl _ _).alloc (Nat.le_refl _) _) _⟩
-- fraction.Fraction.Check
set_option maxHeartbeats 400000 in
theorem chk_own (n d : Int) (w : World) :
    Calls Try.prog 18 #[.agg #[.int .i64 n, .int .i64 d]] w fun e w' => e = .returned (.int .i64 (Vp.chk n d)) ∧ Below w.heap.size w w' := by
  by_cases h1 : d < 1
  · have E : Hid (Vp.chk n d = 2) := by show _ = _; unfold Vp.chk; rw [if_pos (by omega)]
    go_enter Try.func18, Try.ntmps18
    go_wp2
    go_ret
    exact ⟨ret_int E.out.symm, (Below.refl _ _).alloc (Nat.le_refl _) _⟩
  by_cases h2 : 1000000000 < d
  · have E : Hid (Vp.chk n d = 2) := by show _ = _; unfold Vp.chk; rw [if_pos (by omega)]
    go_enter Try.func18, Try.ntmps18
    go_wp2
    go_ret
    exact ⟨ret_int E.out.symm, (Below.refl _ _).alloc (Nat.le_refl _) _⟩
  by_cases h3 : n < -1000000000
  · have E : Hid (Vp.chk n d = 2) := by show _ = _; unfold Vp.chk; rw [if_pos (by omega)]
    go_enter Try.func18, Try.ntmps18
    go_wp2
    go_ret
    exact ⟨ret_int E.out.symm, (Below.refl _ _).alloc (Nat.le_refl _) _⟩
  by_cases h4 : 1000000000 < n
  · have E : Hid (Vp.chk n d = 2) := by show _ = _; unfold Vp.chk; rw [if_pos (by omega)]
    go_enter Try.func18, Try.ntmps18
    go_wp2
    go_ret
    exact ⟨ret_int E.out.symm, (Below.refl _ _).alloc (Nat.le_refl _) _⟩
  have E0 : Hid (Vp.chk n d = if Nat.gcd n.natAbs d.natAbs = 1 then 0 else 3) := by show _ = _; unfold Vp.chk; rw [if_neg (by omega)]
  obtain ⟨d, rfl⟩ := Int.eq_ofNat_of_zero_le (show 0 ≤ d by omega)
  have b1 : n.natAbs < 18446744073709551616 := by omega
  have b2 : d < 18446744073709551616 := by omega
  by_cases hg : Nat.gcd n.natAbs d = 1
  · have E : Hid (Vp.chk n d = 0) := by have := E0.out; show _ = _; rw [this, if_pos (by simpa using hg)]
    have t : (((Nat.gcd n.natAbs d : Nat) : Int) != 1) = false := by rw [hg]; rfl
    clear hg E0
    go_enter Try.func18, Try.ntmps18
    go_wp2_with (first | (go_at_call 22; refine (magnitude_any n (by omega) (by omega) _).mono ?_; rintro e w' ⟨rfl, rfl⟩) | (go_at_call 23; refine (gcd_own n.natAbs d b1 b2 _).mono ?_; rintro e w' ⟨rfl, nq, rfl⟩))
    go_ret
    exact ⟨ret_int E.out.symm, below_drewN ((Below.refl _ _).alloc (Nat.le_refl _) _) _⟩
  · have E : Hid (Vp.chk n d = 3) := by have := E0.out; show _ = _; rw [this, if_neg (by simpa using hg)]
    have t : (((Nat.gcd n.natAbs d : Nat) : Int) != 1) = true := by simp; omega
    clear hg E0
    go_enter Try.func18, Try.ntmps18
    go_wp2_with (first | (go_at_call 22; refine (magnitude_any n (by omega) (by omega) _).mono ?_; rintro e w' ⟨rfl, rfl⟩) | (go_at_call 23; refine (gcd_own n.natAbs d b1 b2 _).mono ?_; rintro e w' ⟨rfl, nq, rfl⟩))
    go_ret
    exact ⟨ret_int E.out.symm, below_drewN ((Below.refl _ _).alloc (Nat.le_refl _) _) _⟩
end Go.Proofs.Ytiibgimanfkhdaa
