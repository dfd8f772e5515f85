/- THE LAWS ValuationValue and ValuationMonotone, walked: the examples of the chapter hold, and the law returns true for every input. -/
import Derived.Test.YtiibgimanfkhdaaValue
namespace Go.Proofs.Ytiibgimanfkhdaa
open Go.RowKit

set_option maxHeartbeats 400000 in
theorem needed_1 (w : World) :
    Calls Try.prog 16 #[.int .i64 500, .int .i64 333, .int .i64 1, .agg #[.int .i64 1, .int .i64 2]] w fun e w' => e = .returned (.tuple #[.int .i64 4, .int .i64 0]) ∧ Below w.heap.size w w' := by
  have hfit : Vp.fit 333 1 2 = true := by decide
  go_enter Try.func16, Try.ntmps16
  go_wp2_with (first | (go_at_call 10; refine (within_yes _ _ _ (by omega) (by omega) _).mono ?_; rintro e w' ⟨rfl, rfl⟩) | (go_at_call 11; refine (valid_any 333 1 2 _).mono ?_; rintro e w' ⟨rfl, hb⟩; obtain ⟨hc, hf⟩ := bcell hb))
  refine (Try.bits_Mul64 500 2 (by omega) (by omega) _).mono ?_
  rintro e w'' ⟨rfl, rfl⟩
  go_wp2_with fail
  refine (div64_any 0 1000 333 (by omega) (by omega) (by omega) _).mono ?_
  rintro e w''' ⟨rfl, nq, rfl⟩
  go_wp2_with fail
  go_ret2
  exact ⟨rfl, below_drewN (((Below.refl _ _).alloc (Nat.le_refl _) _).trans (hb.mono (by simp))) _⟩
set_option maxHeartbeats 400000 in
theorem needed_10 (w : World) :
    Calls Try.prog 16 #[.int .i64 500, .int .i64 333, .int .i64 10, .agg #[.int .i64 1, .int .i64 2]] w fun e w' => e = .returned (.tuple #[.int .i64 10, .int .i64 0]) ∧ Below w.heap.size w w' := by
  have hfit : Vp.fit 333 1 2 = true := by decide
  go_enter Try.func16, Try.ntmps16
  go_wp2_with (first | (go_at_call 10; refine (within_yes _ _ _ (by omega) (by omega) _).mono ?_; rintro e w' ⟨rfl, rfl⟩) | (go_at_call 11; refine (valid_any 333 1 2 _).mono ?_; rintro e w' ⟨rfl, hb⟩; obtain ⟨hc, hf⟩ := bcell hb))
  refine (Try.bits_Mul64 500 2 (by omega) (by omega) _).mono ?_
  rintro e w'' ⟨rfl, rfl⟩
  go_wp2_with fail
  refine (div64_any 0 1000 333 (by omega) (by omega) (by omega) _).mono ?_
  rintro e w''' ⟨rfl, nq, rfl⟩
  go_wp2_with fail
  go_ret2
  exact ⟨rfl, below_drewN (((Below.refl _ _).alloc (Nat.le_refl _) _).trans (hb.mono (by simp))) _⟩

set_option maxHeartbeats 400000 in
theorem known_any (w : World) : Calls Try.prog 8 #[] w fun e w' => e = .returned (.bool true) ∧ Below w.heap.size w w' := by
  have a1 : Vp.valN 100 250 1 5 = 20000 := by decide
  have a2 : Vp.valE 100 250 1 5 = 0 := by decide
  have a3 : Vp.valN 3 333 1 2 = 499 := by decide
  have a4 : Vp.valE 3 333 1 2 = 0 := by decide
  go_enter Try.func8, Try.ntmps8
  go_wp2_with fail
  refine (value_any 100 250 1 5 _).mono ?_
  rintro e w1 ⟨rfl, hb1⟩
  rw [a1, a2]
  go_wp2_with fail
  refine (value_any 3 333 1 2 _).mono ?_
  rintro e w2 ⟨rfl, hb2⟩
  rw [a3, a4]
  clear a1 a2 a3 a4
  go_wp2_with fail
  refine (needed_1 _).mono ?_
  rintro e w3 ⟨rfl, hb3⟩
  go_wp2_with fail
  refine (needed_10 _).mono ?_
  rintro e w4 ⟨rfl, hb4⟩
  go_wp2_with fail
  go_ret
  exact ⟨rfl, hb1.trans ((hb2.mono hb1.size).trans ((hb3.mono (Nat.le_trans hb1.size hb2.size)).trans (hb4.mono (Nat.le_trans hb1.size (Nat.le_trans hb2.size hb3.size)))))⟩

set_option maxHeartbeats 400000 in
theorem law_value (q p n d : Int) (w : World) :
    Calls Try.prog 3 #[.int .i64 q, .int .i64 p, .agg #[.int .i64 n, .int .i64 d]] w fun e w' => e = .returned (.bool true) ∧ Below w.heap.size w w' := by
  go_enter Try.func3, Try.ntmps3
  go_wp2_with fail
  refine (of_any n d _).mono ?_
  rintro e w1 ⟨rfl, hb1⟩
  obtain ⟨hc1, hf1⟩ := bcell hb1
  go_wp2_with fail
  refine (value_any q p n d _).mono ?_
  rintro e w2 ⟨rfl, hb2⟩
  have hb12 := hb1.trans (hb2.mono hb1.size)
  obtain ⟨hc2, hf2⟩ := bcell hb12
  clear hc1 hf1
  go_wp2_with fail
  refine (rvalue_any q p n d _).mono ?_
  rintro e w3 ⟨rfl, hb3⟩
  go_wp2_with fail
  refine (known_any _).mono ?_
  rintro e w4 ⟨rfl, hb4⟩
  go_wp2_with fail
  go_ret
  have h1 := hb12.trans ((hb3.mono hb12.size).trans (hb4.mono (Nat.le_trans hb12.size hb3.size)))
  exact ⟨rfl, ((Below.refl _ _).alloc (Nat.le_refl _) _).trans (h1.mono (by simp))⟩
end Go.Proofs.Ytiibgimanfkhdaa
