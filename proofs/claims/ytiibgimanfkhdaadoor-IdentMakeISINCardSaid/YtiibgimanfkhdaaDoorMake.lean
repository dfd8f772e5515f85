/- THE CONTRACTS of ident.Valid, ident.checkDigits, ident.LEICheckDigits and ident.MakeISIN. -/
import Derived.Test.YtiibgimanfkhdaaDoorCheck2
namespace Go.Proofs.YtiibgimanfkhdaaDoor
open Go.RowKit
set_option linter.unusedVariables false

set_option maxHeartbeats 400000 in
theorem valid_of (k : Int) (s : ByteArray) (a e : Int) (b : Bool) (hb : (e == 0) = b) (w : World)
    (h : Calls Tryd.prog 16 #[.int .i64 k, .string s] w fun x w' => x = .returned (.tuple #[.int .i64 a, .int .i64 e]) ∧ Below w.heap.size w w') :
    Calls Tryd.prog 7 #[.int .i64 k, .string s] w fun x w' => x = .returned (.bool b) ∧ Below w.heap.size w w' := by
  have H := Lib.hid h
  have HB := Lib.hid hb
  clear h hb
  go_enter Tryd.func7, Tryd.ntmps7
  go_wp2_with (go_at_call 16; refine H.out.mono ?_; rintro x w1 ⟨rfl, hb1⟩)
  go_ret
  exact ⟨congrArg (fun x => Ending.returned (.bool x)) HB.out, hb1⟩
theorem flat3_18 : ∀ i, i < 18 → (flat sp3).getD i 0 = (List.replicate 18 10).getD i 0 := by decide
theorem rep18 : ∀ i, i < 18 → (List.replicate 18 10).getD i 0 = 10 := by decide
theorem not_empty (n : ByteArray) (h : 0 < n.size) : n.toList.isEmpty = false := by
  rw [ByteArray.toList_eq]
  rcases hl : n.data.toList with _ | _
  · have : n.data.toList.length = n.size := by simp
    rw [hl] at this; simp at this; omega
  · rfl
theorem pre18 (g cap : Nat) (s : ByteArray) (w : World) (hr : Row (flat sp3) g w) (hok : ∀ (i : Nat) (hi : i < s.size), Ip.isA (s[i]'hi).toNat = true) (hs : s.size = 18) :
    Calls Tryd.prog 29 #[.slice (some ⟨g, 0, none⟩) 18 cap, .int .i64 18, .string s] w fun e w' => e = .returned (.tuple #[.int .i64 0, .int .i64 0]) ∧ w = w' :=
  prefix_fits (List.replicate 18 10) (by decide) g 0 cap 18 s (by omega) (by decide) w
    (fun i hi => by
      have hi' : i < 18 := by simpa using hi
      have h := hr i (by have : (flat sp3).length = 20 := by decide
                         omega)
      rw [h, flat3_18 i hi'])
    (fun i hi hi2 => by
      have hi' : i < 18 := by simpa using hi2
      rw [rep18 i hi']; exact hok i hi) (by omega) (by show s.size ≤ 18; omega)
set_option maxHeartbeats 400000 in
theorem checkDigits_lei (s d : ByteArray) (w : World) (b0 o0 c0 b1 o1 c1 b3 o3 c3 : Nat) (T : Tab w b0 o0 c0 b1 o1 c1 b3 o3 c3) (hs : s.size = 18) (hok : ∀ (i : Nat) (hi : i < s.size), Ip.isA (s[i]'hi).toNat = true)
    (hl : ∀ W, Calls Tryd.prog 73 #[.string s] W fun e w' => e = .returned (.string d) ∧ Below W.heap.size W w') :
    Calls Tryd.prog 31 #[.agg #[.int .i64 20, .slice (some ⟨b3, o3, none⟩) 2 c3, .int .i64 18, .func (.func 73) #[] #[]], .string s] w fun x w' => x = .returned (.tuple #[.string d, .int .i64 0]) ∧ Below w.heap.size w w' := by
  have HS := Lib.hid hs
  have HOK := Lib.hid hok
  have HL := Lib.hid hl
  clear hs hok hl
  obtain ⟨q0, q1, q2, q3, hsz⟩ := box_cells w (.int .i64 20) (.slice (some ⟨b3, o3, none⟩) 2 c3) (.int .i64 18) (.func (.func 73) #[] #[])
  have T0 := T.below ((Below.refl w.heap.size w).alloc (Nat.le_refl _) (.cells #[.int .i64 20, .slice (some ⟨b3, o3, none⟩) 2 c3, .int .i64 18, .func (.func 73) #[] #[]] 59))
  have hB0 := ((Below.refl w.heap.size w).alloc (Nat.le_refl _) (.cells #[.int .i64 20, .slice (some ⟨b3, o3, none⟩) 2 c3, .int .i64 18, .func (.func 73) #[] #[]] 59))
  go_enter Tryd.func31, Tryd.ntmps31
  go_wp2_with fail
  generalize w.alloc (.cells #[.int .i64 20, .slice (some ⟨b3, o3, none⟩) 2 c3, .int .i64 18, .func (.func 73) #[] #[]] 59) = W0 at *
  go_region_held3 (fun w' => w'.cell? ⟨w.heap.size, 0, none⟩ = some (.int .i64 20) ∧ w'.cell? ⟨w.heap.size, 1, none⟩ = some (.slice (some ⟨b3, o3, none⟩) 2 c3) ∧ w'.cell? ⟨w.heap.size, 2, none⟩ = some (.int .i64 18) ∧ w'.cell? ⟨w.heap.size, 3, none⟩ = some (.func (.func 73) #[] #[])) (go_keep)
    (first
      | (go_at_call 30; refine (cls3 _ (T0.below (Below.refl _ _).drew)).mono ?_; rintro e w1 ⟨g, cap, rfl, hcap, hrow, hb1⟩; have r0 := (hb1.cell (p := ⟨w.heap.size, 0, none⟩) hsz).trans q0; have r1 := (hb1.cell (p := ⟨w.heap.size, 1, none⟩) hsz).trans q1; have r2 := (hb1.cell (p := ⟨w.heap.size, 2, none⟩) hsz).trans q2; have r3 := (hb1.cell (p := ⟨w.heap.size, 3, none⟩) hsz).trans q3; have hci : (18 : Int) ≤ (cap : Int) := (by omega))
      | (go_at_call 29; refine (pre18 g cap _ _ ?_ HOK.out HS.out).mono ?_; exact hrow; rintro e w2 ⟨rfl, rfl⟩))
  go_wp2_with fail
  have hB1 : Below w.heap.size w w1 := hB0.trans ((Below.refl _ W0).drew.trans hb1 |>.mono hB0.size)
  refine (HL.out _).mono ?_; rintro x w2 ⟨rfl, hb2⟩
  go_wp2_with fail
  go_ret2
  exact ⟨rfl, hB1.trans (hb2.mono hB1.size)⟩
set_option maxHeartbeats 400000 in
theorem lei_digits (s d : ByteArray) (w : World) (b0 o0 c0 b1 o1 c1 b3 o3 c3 : Nat) (T : Tab w b0 o0 c0 b1 o1 c1 b3 o3 c3) (hs : s.size = 18) (hok : ∀ (i : Nat) (hi : i < s.size), Ip.isA (s[i]'hi).toNat = true)
    (hl : ∀ W, Calls Tryd.prog 73 #[.string s] W fun e w' => e = .returned (.string d) ∧ Below W.heap.size W w') :
    Calls Tryd.prog 17 #[.string s] w fun x w' => x = .returned (.tuple #[.string d, .int .i64 0]) ∧ Below w.heap.size w w' := by
  have H := Lib.hid (checkDigits_lei s d w b0 o0 c0 b1 o1 c1 b3 o3 c3 T hs hok hl)
  have k0 := T.k30
  have k1 := T.k31
  have k2 := T.k32
  have k3 := T.k33
  clear hs hok hl
  go_enter Tryd.func17, Tryd.ntmps17
  go_wp2_with (go_at_call 31; refine H.out.mono ?_; rintro x w1 ⟨rfl, hb1⟩)
  go_ret2
  exact ⟨rfl, hb1⟩

-- ident.MakeISIN
set_option maxHeartbeats 400000 in
theorem make_1 (c n : ByteArray) (hc : ¬ c.size = 2) (w : World) : Calls Tryd.prog 4 #[.string c, .string n] w fun x w' => x = .returned (.tuple #[.string ⟨#[]⟩, .int .i64 3]) ∧ w = w' := by
  have h1 : ¬ (c.size : Int) = 2 := by omega
  clear hc
  go_enter Tryd.func4, Tryd.ntmps4
  go_wp2_with fail
  go_ret2
  exact ⟨rfl, rfl⟩
set_option maxHeartbeats 400000 in
theorem make_2 (c n : ByteArray) (hc : c.size = 2) (j : Nat) (hj : j < c.size) (h : Ip.isL (c[j]'hj).toNat = false) (w : World) : Calls Tryd.prog 4 #[.string c, .string n] w fun x w' => x = .returned (.tuple #[.string ⟨#[]⟩, .int .i64 3]) ∧ w = w' := by
  have h1 : (c.size : Int) = 2 := by omega
  have H := Lib.hid (all_no9 c (by omega) j hj h)
  clear hc h hj
  go_enter Tryd.func4, Tryd.ntmps4
  go_wp2_with fail
  refine (H.out _).mono ?_; rintro x w1 ⟨rfl, rfl⟩
  go_wp2_with fail
  go_ret2
  exact ⟨rfl, rfl⟩
set_option maxHeartbeats 400000 in
theorem make_3 (c n : ByteArray) (hc : c.size = 2) (hL : ∀ (i : Nat) (hi : i < c.size), Ip.isL (c[i]'hi).toNat = true) (hn : n.size ≤ 1000) (j : Nat) (hj : j < n.size) (h : Ip.isA (n[j]'hj).toNat = false) (w : World) : Calls Tryd.prog 4 #[.string c, .string n] w fun x w' => x = .returned (.tuple #[.string ⟨#[]⟩, .int .i64 3]) ∧ w = w' := by
  have h1 : (c.size : Int) = 2 := by omega
  have H := Lib.hid (all_yes9 c (by omega) hL)
  have H2 := Lib.hid (all_no10 n hn j hj h)
  clear hc h hj hn hL
  go_enter Tryd.func4, Tryd.ntmps4
  go_wp2_with fail
  refine (H.out _).mono ?_; rintro x w1 ⟨rfl, rfl⟩
  go_wp2_with fail
  refine (H2.out _).mono ?_; rintro x w1 ⟨rfl, rfl⟩
  go_wp2_with fail
  go_ret2
  exact ⟨rfl, rfl⟩
set_option maxHeartbeats 400000 in
theorem make_4 (c n : ByteArray) (hc : c.size = 2) (hL : ∀ (i : Nat) (hi : i < c.size), Ip.isL (c[i]'hi).toNat = true) (hn : n.size = 0) (w : World) : Calls Tryd.prog 4 #[.string c, .string n] w fun x w' => x = .returned (.tuple #[.string ⟨#[]⟩, .int .i64 4]) ∧ w = w' := by
  have h1 : (c.size : Int) = 2 := by omega
  have H := Lib.hid (all_yes9 c (by omega) hL)
  have H2 := Lib.hid (all_yes10 n (by omega) (fun i hi => by omega))
  have e : n = ⟨#[]⟩ := by
    apply ByteArray.ext; apply Array.eq_empty_of_size_eq_zero; exact hn
  subst e
  clear hc hL hn
  go_enter Tryd.func4, Tryd.ntmps4
  go_wp2_with fail
  refine (H.out _).mono ?_; rintro x w1 ⟨rfl, rfl⟩
  go_wp2_with fail
  refine (H2.out _).mono ?_; rintro x w1 ⟨rfl, rfl⟩
  go_wp2_with fail
  go_ret2
  exact ⟨rfl, rfl⟩
set_option maxHeartbeats 400000 in
theorem make_5 (c n : ByteArray) (hc : c.size = 2) (hL : ∀ (i : Nat) (hi : i < c.size), Ip.isL (c[i]'hi).toNat = true) (hn : n.size ≤ 1000) (hA : ∀ (i : Nat) (hi : i < n.size), Ip.isA (n[i]'hi).toNat = true) (h9 : 9 < n.size) (w : World) : Calls Tryd.prog 4 #[.string c, .string n] w fun x w' => x = .returned (.tuple #[.string ⟨#[]⟩, .int .i64 5]) ∧ w = w' := by
  have h1 : (c.size : Int) = 2 := by omega
  have H := Lib.hid (all_yes9 c (by omega) hL)
  have H2 := Lib.hid (all_yes10 n hn hA)
  have t1 : n.toList.isEmpty = false := not_empty n (by omega)
  have t2 : (9 : Int) < (n.size : Int) := by omega
  clear hc hL hn hA h9
  go_enter Tryd.func4, Tryd.ntmps4
  go_wp2_with fail
  refine (H.out _).mono ?_; rintro x w1 ⟨rfl, rfl⟩
  go_wp2_with fail
  refine (H2.out _).mono ?_; rintro x w1 ⟨rfl, rfl⟩
  go_wp2_with fail
  go_ret2
  exact ⟨rfl, rfl⟩
set_option maxHeartbeats 400000 in
theorem make_6 (c n p d : ByteArray) (hc : c.size = 2) (hL : ∀ (i : Nat) (hi : i < c.size), Ip.isL (c[i]'hi).toNat = true) (hn : 0 < n.size) (hA : ∀ (i : Nat) (hi : i < n.size), Ip.isA (n[i]'hi).toNat = true) (h9 : n.size ≤ 9) (hp : p = ⟨(Lib.repeatL [48] (9 - n.size)).toArray⟩)
    (hl : ∀ W, Calls Tryd.prog 12 #[.string (c ++ p ++ n)] W fun e w' => e = .returned (.string d) ∧ Below W.heap.size W w') (hd : d.size = 1) (w : World) : Calls Tryd.prog 4 #[.string c, .string n] w fun x w' => x = .returned (.tuple #[.string (c ++ p ++ n ++ d), .int .i64 0]) ∧ Below w.heap.size w w' := by
  have h1 : (c.size : Int) = 2 := by omega
  have H := Lib.hid (all_yes9 c (by omega) hL)
  have H2 := Lib.hid (all_yes10 n (by omega) hA)
  have HL := Lib.hid hl
  have HP := Lib.hid hp
  have t1 : n.toList.isEmpty = false := not_empty n (by omega)
  have t2 : ¬ (9 : Int) < (n.size : Int) := by omega
  have z1 : (p.size : Int) = 9 - (n.size : Int) := by rw [hp, size_of_list, Lib.repeatL_length]; simp; omega
  have z2 : (d.size : Int) = 1 := by omega
  have t3 : IntKind.i64.wrap (9 - (n.size : Int)) = ((9 - n.size : Nat) : Int) := by rw [IntKind.wrap_i64]; omega
  have HR : Hid (∀ W, Calls Tryd.prog 11 #[.string ⟨#[48]⟩, .int .i64 ((9 - n.size : Nat) : Int)] W fun e w' => e = .returned (.string p) ∧ Below W.heap.size W w') :=
    Lib.hid fun W => (Tryd.strings_Repeat ⟨#[48]⟩ (9 - n.size) W (by omega) (by show 1 * _ ≤ _; omega)).mono fun _ _ h => ⟨h.1.trans (by rw [hp]), h.2⟩
  clear hc hL hn hA h9 hl hp hd
  go_enter Tryd.func4, Tryd.ntmps4
  go_wp2_with fail
  refine (H.out _).mono ?_; rintro x w1 ⟨rfl, rfl⟩
  go_wp2_with fail
  refine (H2.out _).mono ?_; rintro x w1 ⟨rfl, rfl⟩
  go_wp2_with fail
  refine (HR.out _).mono ?_; rintro x w1 ⟨rfl, hb1⟩
  go_wp2_with fail
  refine (HL.out _).mono ?_; rintro x w2 ⟨rfl, hb2⟩
  go_wp2_with fail
  go_ret2
  exact ⟨rfl, hb1.trans (hb2.mono hb1.size)⟩
end Go.Proofs.YtiibgimanfkhdaaDoor
