/- THE CONTRACTS of ident.Check at the empty string (kind 0), at a member's identifier that is too short, and at an LEI. -/
import Derived.Test.YtiibgimanfkhdaaDoorCheck
namespace Go.Proofs.YtiibgimanfkhdaaDoor
open Go.RowKit
set_option linter.unusedVariables false

set_option maxHeartbeats 1000000 in
theorem check_none (s : ByteArray) (hs : s.size = 0) (w : World) (b0 o0 c0 b1 o1 c1 b3 o3 c3 : Nat) (T : Tab w b0 o0 c0 b1 o1 c1 b3 o3 c3) :
    Calls Tryd.prog 16 #[.int .i64 0, .string s] w fun e w' => e = .returned (.tuple #[.int .i64 0, .int .i64 4]) ∧ Below w.heap.size w w' := by
  have k0 := T.k00
  have k1 := T.k01
  have k2 := T.k02
  have k3 := T.k03
  have hz := T.z
  have HS := Lib.hid hs
  clear hs
  obtain ⟨q0, q1, q2, q3, hsz⟩ := box_cells w (.int .i64 12) (.slice (some ⟨b0, o0, none⟩) 3 c0) (.int .i64 11) (.func (.func 12) #[] #[])
  have T0 := T.below ((Below.refl w.heap.size w).alloc (Nat.le_refl _) (.cells #[.int .i64 12, .slice (some ⟨b0, o0, none⟩) 3 c0, .int .i64 11, .func (.func 12) #[] #[]] 59))
  have hB0 := ((Below.refl w.heap.size w).alloc (Nat.le_refl _) (.cells #[.int .i64 12, .slice (some ⟨b0, o0, none⟩) 3 c0, .int .i64 11, .func (.func 12) #[] #[]] 59))
  go_enter Tryd.func16, Tryd.ntmps16
  go_wp2_with fail
  generalize w.alloc (.cells #[.int .i64 12, .slice (some ⟨b0, o0, none⟩) 3 c0, .int .i64 11, .func (.func 12) #[] #[]] 59) = W0 at *
  clear k0 k1 k2 k3 T
  go_region_held3 (fun w' => w'.cell? ⟨w.heap.size, 0, none⟩ = some (.int .i64 12) ∧ w'.cell? ⟨w.heap.size, 1, none⟩ = some (.slice (some ⟨b0, o0, none⟩) 3 c0) ∧ w'.cell? ⟨w.heap.size, 2, none⟩ = some (.int .i64 11) ∧ w'.cell? ⟨w.heap.size, 3, none⟩ = some (.func (.func 12) #[] #[])) (go_keep)
    (first
      | (go_at_call 30; refine (cls0 _ (T0.below (Below.refl _ _).drew)).mono ?_; rintro e w1 ⟨g, cap, rfl, hcap, hrow, hb1⟩; have r0 := (hb1.cell (p := ⟨w.heap.size, 0, none⟩) hsz).trans q0; have r1 := (hb1.cell (p := ⟨w.heap.size, 1, none⟩) hsz).trans q1; have r2 := (hb1.cell (p := ⟨w.heap.size, 2, none⟩) hsz).trans q2; have r3 := (hb1.cell (p := ⟨w.heap.size, 3, none⟩) hsz).trans q3)
      | (go_at_call 29; refine (pre0e _ _ _ _ ?_ HS.out).mono ?_; exact hrow; rintro e w2 ⟨rfl, rfl⟩))
  go_wp2_with fail
  have hB1 : Below w.heap.size w w1 := hB0.trans ((Below.refl _ W0).drew.trans hb1 |>.mono hB0.size)
  go_ret2
  exact ⟨rfl, hB1⟩

set_option maxHeartbeats 1000000 in
theorem check_member (s : ByteArray) (hs : s.size = 2) (w : World) (b0 o0 c0 b1 o1 c1 b3 o3 c3 : Nat) (T : Tab w b0 o0 c0 b1 o1 c1 b3 o3 c3) (hok : Fits (flat sp1) s) :
    Calls Tryd.prog 16 #[.int .i64 1, .string s] w fun e w' => e = .returned (.tuple #[.int .i64 2, .int .i64 4]) ∧ Below w.heap.size w w' := by
  have k0 := T.k10
  have k1 := T.k11
  have k2 := T.k12
  have k3 := T.k13
  have hz := T.z
  have HS := Lib.hid hs
  have HOK := Lib.hid hok
  clear hs hok
  obtain ⟨q0, q1, q2, q3, hsz⟩ := box_cells w (.int .i64 4) (.slice (some ⟨b1, o1, none⟩) 2 c1) (.int .i64 0) (.nilFunc)
  have T0 := T.below ((Below.refl w.heap.size w).alloc (Nat.le_refl _) (.cells #[.int .i64 4, .slice (some ⟨b1, o1, none⟩) 2 c1, .int .i64 0, .nilFunc] 59))
  have hB0 := ((Below.refl w.heap.size w).alloc (Nat.le_refl _) (.cells #[.int .i64 4, .slice (some ⟨b1, o1, none⟩) 2 c1, .int .i64 0, .nilFunc] 59))
  go_enter Tryd.func16, Tryd.ntmps16
  go_wp2_with fail
  generalize w.alloc (.cells #[.int .i64 4, .slice (some ⟨b1, o1, none⟩) 2 c1, .int .i64 0, .nilFunc] 59) = W0 at *
  clear k0 k1 k2 k3 T
  go_region_held3 (fun w' => w'.cell? ⟨w.heap.size, 0, none⟩ = some (.int .i64 4) ∧ w'.cell? ⟨w.heap.size, 1, none⟩ = some (.slice (some ⟨b1, o1, none⟩) 2 c1) ∧ w'.cell? ⟨w.heap.size, 2, none⟩ = some (.int .i64 0) ∧ w'.cell? ⟨w.heap.size, 3, none⟩ = some (.nilFunc)) (go_keep)
    (first
      | (go_at_call 30; refine (cls1 _ (T0.below (Below.refl _ _).drew)).mono ?_; rintro e w1 ⟨g, cap, rfl, hcap, hrow, hb1⟩; have r0 := (hb1.cell (p := ⟨w.heap.size, 0, none⟩) hsz).trans q0; have r1 := (hb1.cell (p := ⟨w.heap.size, 1, none⟩) hsz).trans q1; have r2 := (hb1.cell (p := ⟨w.heap.size, 2, none⟩) hsz).trans q2; have r3 := (hb1.cell (p := ⟨w.heap.size, 3, none⟩) hsz).trans q3)
      | (go_at_call 29; refine (pre1 _ _ _ _ ?_ HOK.out HS.out).mono ?_; exact hrow; rintro e w2 ⟨rfl, rfl⟩))
  go_wp2_with fail
  have hB1 : Below w.heap.size w w1 := hB0.trans ((Below.refl _ W0).drew.trans hb1 |>.mono hB0.size)
  go_ret2
  exact ⟨rfl, hB1⟩

set_option maxHeartbeats 1000000 in
theorem check_lei (s d t : ByteArray) (hs : s.size = 20) (w : World) (b0 o0 c0 b1 o1 c1 b3 o3 c3 : Nat) (T : Tab w b0 o0 c0 b1 o1 c1 b3 o3 c3) (hok : Fits (flat sp3) s)
    (hl : ∀ W, Calls Tryd.prog 73 #[.string (s.extract 0 18)] W fun e w' => e = .returned (.string d) ∧ Below W.heap.size W w') (ht : s.extract 18 s.size = t) (hd : (d.toList == t.toList) = true) :
    Calls Tryd.prog 16 #[.int .i64 3, .string s] w fun e w' => e = .returned (.tuple #[.int .i64 0, .int .i64 0]) ∧ Below w.heap.size w w' := by
  have k0 := T.k30
  have k1 := T.k31
  have k2 := T.k32
  have k3 := T.k33
  have hz := T.z
  have HS := Lib.hid hs
  have HOK := Lib.hid hok
  have HL := Lib.hid hl
  have HT := Lib.hid ht
  have HD := Lib.hid hd
  clear hs hok hl ht hd
  obtain ⟨q0, q1, q2, q3, hsz⟩ := box_cells w (.int .i64 20) (.slice (some ⟨b3, o3, none⟩) 2 c3) (.int .i64 18) (.func (.func 73) #[] #[])
  have T0 := T.below ((Below.refl w.heap.size w).alloc (Nat.le_refl _) (.cells #[.int .i64 20, .slice (some ⟨b3, o3, none⟩) 2 c3, .int .i64 18, .func (.func 73) #[] #[]] 59))
  have hB0 := ((Below.refl w.heap.size w).alloc (Nat.le_refl _) (.cells #[.int .i64 20, .slice (some ⟨b3, o3, none⟩) 2 c3, .int .i64 18, .func (.func 73) #[] #[]] 59))
  go_enter Tryd.func16, Tryd.ntmps16
  go_wp2_with fail
  generalize w.alloc (.cells #[.int .i64 20, .slice (some ⟨b3, o3, none⟩) 2 c3, .int .i64 18, .func (.func 73) #[] #[]] 59) = W0 at *
  clear k0 k1 k2 k3 T
  go_region_held3 (fun w' => w'.cell? ⟨w.heap.size, 0, none⟩ = some (.int .i64 20) ∧ w'.cell? ⟨w.heap.size, 1, none⟩ = some (.slice (some ⟨b3, o3, none⟩) 2 c3) ∧ w'.cell? ⟨w.heap.size, 2, none⟩ = some (.int .i64 18) ∧ w'.cell? ⟨w.heap.size, 3, none⟩ = some (.func (.func 73) #[] #[])) (go_keep)
    (first
      | (go_at_call 30; refine (cls3 _ (T0.below (Below.refl _ _).drew)).mono ?_; rintro e w1 ⟨g, cap, rfl, hcap, hrow, hb1⟩; have r0 := (hb1.cell (p := ⟨w.heap.size, 0, none⟩) hsz).trans q0; have r1 := (hb1.cell (p := ⟨w.heap.size, 1, none⟩) hsz).trans q1; have r2 := (hb1.cell (p := ⟨w.heap.size, 2, none⟩) hsz).trans q2; have r3 := (hb1.cell (p := ⟨w.heap.size, 3, none⟩) hsz).trans q3)
      | (go_at_call 29; refine (pre3 _ _ _ _ ?_ HOK.out HS.out).mono ?_; exact hrow; rintro e w2 ⟨rfl, rfl⟩))
  go_wp2_with fail
  have hB1 : Below w.heap.size w w1 := hB0.trans ((Below.refl _ W0).drew.trans hb1 |>.mono hB0.size)
  have hsz1 : w.heap.size < w1.heap.size := Nat.lt_of_lt_of_le hsz hb1.size
  have hnf := neq73
  have hge : (18 : Int) ≤ (s.size : Int) := by have := HS.out; omega
  clear hcap
  go_region_held3 (fun w' => w'.cell? ⟨w.heap.size, 2, none⟩ = some (.int .i64 18) ∧ w'.cell? ⟨w.heap.size, 3, none⟩ = some (.func (.func 73) #[] #[])) (go_keep)
    (first
      | (go_at_call 73; rw [HT.out]; refine (HL.out _).mono ?_; rintro e w2 ⟨rfl, hb2⟩; have hd := HD.out; have r4 := (hb2.cell (p := ⟨w.heap.size, 2, none⟩) hsz1).trans r2; have r5 := (hb2.cell (p := ⟨w.heap.size, 3, none⟩) hsz1).trans r3))
  go_wp2_with fail
  go_ret2
  exact ⟨rfl, hB1.trans ((Below.refl _ w1).drew.trans hb2 |>.mono hB1.size)⟩
end Go.Proofs.YtiibgimanfkhdaaDoor
