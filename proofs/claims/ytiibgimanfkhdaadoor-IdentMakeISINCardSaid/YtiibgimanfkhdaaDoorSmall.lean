/- THE CONTRACTS of the small functions below IdentMakeISIN: classes of characters, 'all', the expansion of letters. -/
import Derived.Test.YtiibgimanfkhdaaDoorRows
import Derived.Test.YtiibgimanfkhdaaDoorShelf
import Derived.Test.YtiibgimanfkhdaaDoorPlain
import Derived.WalkKit
import Derived.WalkSpells
import Derived.WalkLawsBesides
import Derived.Lib.Hide
import Derived.BigQuiet
import Derived.BigCall
import Derived.ShutString
namespace Go.Proofs.YtiibgimanfkhdaaDoor
open Go.RowKit

theorem bcell {W w1 : World} (hb : Below W.heap.size W w1) : (∀ b o, b < W.heap.size → w1.cell? ⟨b, o, none⟩ = W.cell? ⟨b, o, none⟩) ∧ (∀ b o, b < W.heap.size → w1.frozen? ⟨b, o, none⟩ = W.frozen? ⟨b, o, none⟩) :=
  ⟨fun b o h => hb.cell (p := ⟨b, o, none⟩) h, fun b o h => hb.frozen (p := ⟨b, o, none⟩) h⟩
theorem ret_bool {a b : Bool} (h : a = b) : Ending.returned (.bool a) = .returned (.bool b) := by rw [h]

-- ident.letter, ident.digit, the reference's letter and digit
set_option maxHeartbeats 400000 in
theorem letter_any (n : Nat) (w : World) : Calls Tryd.prog 9 #[.int .u8 n] w fun e w' => e = .returned (.bool (Ip.isL n)) ∧ w = w' := by
  by_cases h1 : 65 ≤ n
  · by_cases h2 : n ≤ 90
    · have t2 : decide ((n : Int) ≤ 90) = true := decide_eq_true (by omega)
      have E := Lib.hid ((Ip.isL_iff n).2 ⟨h1, h2⟩)
      go_enter Tryd.func9, Tryd.ntmps9
      go_wp2
      go_ret
      exact ⟨ret_bool E.out.symm, rfl⟩
    · have t2 : decide ((n : Int) ≤ 90) = false := decide_eq_false (by omega)
      have E : Hid (Ip.isL n = false) := by show _ = _; unfold Ip.isL; exact decide_eq_false (by omega)
      go_enter Tryd.func9, Tryd.ntmps9
      go_wp2
      go_ret
      exact ⟨ret_bool E.out.symm, rfl⟩
  · have E : Hid (Ip.isL n = false) := by show _ = _; unfold Ip.isL; exact decide_eq_false (by omega)
    go_enter Tryd.func9, Tryd.ntmps9
    go_wp2
    go_ret
    exact ⟨ret_bool E.out.symm, rfl⟩
set_option maxHeartbeats 400000 in
theorem digit_any (n : Nat) (w : World) : Calls Tryd.prog 18 #[.int .u8 n] w fun e w' => e = .returned (.bool (Ip.isD n)) ∧ w = w' := by
  by_cases h1 : 48 ≤ n
  · by_cases h2 : n ≤ 57
    · have t2 : decide ((n : Int) ≤ 57) = true := decide_eq_true (by omega)
      have E := Lib.hid ((Ip.isD_iff n).2 ⟨h1, h2⟩)
      go_enter Tryd.func18, Tryd.ntmps18
      go_wp2
      go_ret
      exact ⟨ret_bool E.out.symm, rfl⟩
    · have t2 : decide ((n : Int) ≤ 57) = false := decide_eq_false (by omega)
      have E : Hid (Ip.isD n = false) := by show _ = _; unfold Ip.isD; exact decide_eq_false (by omega)
      go_enter Tryd.func18, Tryd.ntmps18
      go_wp2
      go_ret
      exact ⟨ret_bool E.out.symm, rfl⟩
  · have E : Hid (Ip.isD n = false) := by show _ = _; unfold Ip.isD; exact decide_eq_false (by omega)
    go_enter Tryd.func18, Tryd.ntmps18
    go_wp2
    go_ret
    exact ⟨ret_bool E.out.symm, rfl⟩
set_option maxHeartbeats 400000 in
theorem rletter_any (n : Nat) (w : World) : Calls Tryd.prog 13 #[.int .u8 n] w fun e w' => e = .returned (.bool (Ip.isL n)) ∧ w = w' := by
  by_cases h1 : 65 ≤ n
  · by_cases h2 : n ≤ 90
    · have t2 : decide ((n : Int) ≤ 90) = true := decide_eq_true (by omega)
      have E := Lib.hid ((Ip.isL_iff n).2 ⟨h1, h2⟩)
      go_enter Tryd.func13, Tryd.ntmps13
      go_wp2
      go_ret
      exact ⟨ret_bool E.out.symm, rfl⟩
    · have t2 : decide ((n : Int) ≤ 90) = false := decide_eq_false (by omega)
      have E : Hid (Ip.isL n = false) := by show _ = _; unfold Ip.isL; exact decide_eq_false (by omega)
      go_enter Tryd.func13, Tryd.ntmps13
      go_wp2
      go_ret
      exact ⟨ret_bool E.out.symm, rfl⟩
  · have E : Hid (Ip.isL n = false) := by show _ = _; unfold Ip.isL; exact decide_eq_false (by omega)
    go_enter Tryd.func13, Tryd.ntmps13
    go_wp2
    go_ret
    exact ⟨ret_bool E.out.symm, rfl⟩
set_option maxHeartbeats 400000 in
theorem rdigit_any (n : Nat) (w : World) : Calls Tryd.prog 14 #[.int .u8 n] w fun e w' => e = .returned (.bool (Ip.isD n)) ∧ w = w' := by
  by_cases h1 : 48 ≤ n
  · by_cases h2 : n ≤ 57
    · have t2 : decide ((n : Int) ≤ 57) = true := decide_eq_true (by omega)
      have E := Lib.hid ((Ip.isD_iff n).2 ⟨h1, h2⟩)
      go_enter Tryd.func14, Tryd.ntmps14
      go_wp2
      go_ret
      exact ⟨ret_bool E.out.symm, rfl⟩
    · have t2 : decide ((n : Int) ≤ 57) = false := decide_eq_false (by omega)
      have E : Hid (Ip.isD n = false) := by show _ = _; unfold Ip.isD; exact decide_eq_false (by omega)
      go_enter Tryd.func14, Tryd.ntmps14
      go_wp2
      go_ret
      exact ⟨ret_bool E.out.symm, rfl⟩
  · have E : Hid (Ip.isD n = false) := by show _ = _; unfold Ip.isD; exact decide_eq_false (by omega)
    go_enter Tryd.func14, Tryd.ntmps14
    go_wp2
    go_ret
    exact ⟨ret_bool E.out.symm, rfl⟩
-- ident.alphanumeric, ident.refCharacter
set_option maxHeartbeats 400000 in
theorem alnum_any (n : Nat) (w : World) : Calls Tryd.prog 10 #[.int .u8 n] w fun e w' => e = .returned (.bool (Ip.isA n)) ∧ w = w' := by
  rcases h : Ip.isL n with _ | _
  · have E : Hid (Ip.isA n = Ip.isD n) := by show _ = _; unfold Ip.isA; rw [h]; rfl
    go_enter Tryd.func10, Tryd.ntmps10
    go_wp2_with (first | (go_at_call 9; refine (letter_any _ _).mono ?_; rintro e w' ⟨rfl, rfl⟩) | (go_at_call 18; refine (digit_any _ _).mono ?_; rintro e w' ⟨rfl, rfl⟩))
    go_ret
    exact ⟨ret_bool E.out.symm, rfl⟩
  · have E : Hid (Ip.isA n = true) := by show _ = _; unfold Ip.isA; rw [h]; rfl
    go_enter Tryd.func10, Tryd.ntmps10
    go_wp2_with (first | (go_at_call 9; refine (letter_any _ _).mono ?_; rintro e w' ⟨rfl, rfl⟩) | (go_at_call 18; refine (digit_any _ _).mono ?_; rintro e w' ⟨rfl, rfl⟩))
    go_ret
    exact ⟨ret_bool E.out.symm, rfl⟩
set_option maxHeartbeats 400000 in
theorem refch_any (n : Nat) (w : World) : Calls Tryd.prog 72 #[.int .u8 n] w fun e w' => e = .returned (.bool (Ip.isR n)) ∧ w = w' := by
  rcases h : Ip.isA n with _ | _
  · have E : Hid (Ip.isR n = ((n : Int) == 45)) := by show _ = _; unfold Ip.isR; rw [h, Bool.eq_iff_iff]; simp; omega
    go_enter Tryd.func72, Tryd.ntmps72
    go_wp2_with (go_at_call 10; refine (alnum_any _ _).mono ?_; rintro e w' ⟨rfl, rfl⟩)
    go_ret
    exact ⟨ret_bool E.out.symm, rfl⟩
  · have E : Hid (Ip.isR n = true) := by show _ = _; unfold Ip.isR; rw [h]; rfl
    go_enter Tryd.func72, Tryd.ntmps72
    go_wp2_with (go_at_call 10; refine (alnum_any _ _).mono ?_; rintro e w' ⟨rfl, rfl⟩)
    go_ret
    exact ⟨ret_bool E.out.symm, rfl⟩

-- ident.all
set_option maxHeartbeats 400000 in
theorem all_yes9 (s : ByteArray) (hs : s.size ≤ 1000) (h : ∀ (i : Nat) (hi : i < s.size), Ip.isL (s[i]'hi).toNat = true) (w : World) :
    Calls Tryd.prog 8 #[.string s, .func (.func 9) #[] #[]] w fun e w' => e = .returned (.bool true) ∧ w = w' := by
  have H := Lib.hid h
  clear h
  go_enter Tryd.func8, Tryd.ntmps8
  go_wp2
  go_loop [8] (fun i => ∃ k : Nat, k ≤ s.size ∧ i = .int .i64 k) (fun i => s.size - (intOf i).toNat)
  case atStart => exact ⟨0, Nat.zero_le _, rfl⟩
  case round =>
    obtain ⟨k, hk, rfl⟩ := hrel
    by_cases hlt : k < s.size
    · have hx := H.out k hlt
      go_wp2_with (go_at_call 9; refine (letter_any _ _).mono ?_; rintro e w' ⟨rfl, rfl⟩)
      go_round
      case rel => exact ⟨k + 1, by omega, by go_num⟩
      case measure => simp [intOf]; omega
    · go_wp2_with fail
      go_ret
      exact ⟨rfl, rfl⟩
set_option maxHeartbeats 400000 in
theorem all_yes10 (s : ByteArray) (hs : s.size ≤ 1000) (h : ∀ (i : Nat) (hi : i < s.size), Ip.isA (s[i]'hi).toNat = true) (w : World) :
    Calls Tryd.prog 8 #[.string s, .func (.func 10) #[] #[]] w fun e w' => e = .returned (.bool true) ∧ w = w' := by
  have H := Lib.hid h
  clear h
  go_enter Tryd.func8, Tryd.ntmps8
  go_wp2
  go_loop [8] (fun i => ∃ k : Nat, k ≤ s.size ∧ i = .int .i64 k) (fun i => s.size - (intOf i).toNat)
  case atStart => exact ⟨0, Nat.zero_le _, rfl⟩
  case round =>
    obtain ⟨k, hk, rfl⟩ := hrel
    by_cases hlt : k < s.size
    · have hx := H.out k hlt
      go_wp2_with (go_at_call 10; refine (alnum_any _ _).mono ?_; rintro e w' ⟨rfl, rfl⟩)
      go_round
      case rel => exact ⟨k + 1, by omega, by go_num⟩
      case measure => simp [intOf]; omega
    · go_wp2_with fail
      go_ret
      exact ⟨rfl, rfl⟩
set_option maxHeartbeats 400000 in
theorem all_no9 (s : ByteArray) (hs : s.size ≤ 1000) (j : Nat) (hj : j < s.size) (h : Ip.isL (s[j]'hj).toNat = false) (w : World) :
    Calls Tryd.prog 8 #[.string s, .func (.func 9) #[] #[]] w fun e w' => e = .returned (.bool false) ∧ w = w' := by
  have H := Lib.hid h
  clear h
  go_enter Tryd.func8, Tryd.ntmps8
  go_wp2
  go_loop [8] (fun i => ∃ k : Nat, k ≤ j ∧ i = .int .i64 k) (fun i => s.size - (intOf i).toNat)
  case atStart => exact ⟨0, Nat.zero_le _, rfl⟩
  case round =>
    obtain ⟨k, hk, rfl⟩ := hrel
    have hlt : k < s.size := by omega
    rcases hx : Ip.isL (s[k]'hlt).toNat with _ | _
    · go_wp2_with (go_at_call 9; refine (letter_any _ _).mono ?_; rintro e w' ⟨rfl, rfl⟩)
      go_ret
      exact ⟨rfl, rfl⟩
    · have hne : k ≠ j := by rintro rfl; rw [H.out] at hx; cases hx
      go_wp2_with (go_at_call 9; refine (letter_any _ _).mono ?_; rintro e w' ⟨rfl, rfl⟩)
      go_round
      case rel => exact ⟨k + 1, by omega, by go_num⟩
      case measure => simp [intOf]; omega
set_option maxHeartbeats 400000 in
theorem all_no10 (s : ByteArray) (hs : s.size ≤ 1000) (j : Nat) (hj : j < s.size) (h : Ip.isA (s[j]'hj).toNat = false) (w : World) :
    Calls Tryd.prog 8 #[.string s, .func (.func 10) #[] #[]] w fun e w' => e = .returned (.bool false) ∧ w = w' := by
  have H := Lib.hid h
  clear h
  go_enter Tryd.func8, Tryd.ntmps8
  go_wp2
  go_loop [8] (fun i => ∃ k : Nat, k ≤ j ∧ i = .int .i64 k) (fun i => s.size - (intOf i).toNat)
  case atStart => exact ⟨0, Nat.zero_le _, rfl⟩
  case round =>
    obtain ⟨k, hk, rfl⟩ := hrel
    have hlt : k < s.size := by omega
    rcases hx : Ip.isA (s[k]'hlt).toNat with _ | _
    · go_wp2_with (go_at_call 10; refine (alnum_any _ _).mono ?_; rintro e w' ⟨rfl, rfl⟩)
      go_ret
      exact ⟨rfl, rfl⟩
    · have hne : k ≠ j := by rintro rfl; rw [H.out] at hx; cases hx
      go_wp2_with (go_at_call 10; refine (alnum_any _ _).mono ?_; rintro e w' ⟨rfl, rfl⟩)
      go_round
      case rel => exact ⟨k + 1, by omega, by go_num⟩
      case measure => simp [intOf]; omega

-- ident.expand
theorem builder_fresh (w : World) : Lib.IsBuilder 46 5 w.heap.size w.heap.size [] (w.alloc (.cells #[.pointer none, .slice none 0 0] 46)) := Lib.fresh_isBuilder 46 5 w
set_option maxHeartbeats 800000 in
theorem expand_any (s : ByteArray) (hs : s.size ≤ 1000) (h : ∀ (i : Nat) (hi : i < s.size), Ip.isA (s[i]'hi).toNat = true) (w : World) :
    Calls Tryd.prog 25 #[.string s] w fun e w' => e = .returned (.string ⟨(Ip.txt (Ip.digs s.data.toList)).toArray⟩) ∧ Below w.heap.size w w' := by
  have H := Lib.hid h
  clear h
  go_enter Tryd.func25, Tryd.ntmps25
  go_wp2_with fail
  go_loopw [7] (fun i wr => ∃ k : Nat, k ≤ s.size ∧ i = .int .i64 k ∧ Lib.IsBuilder 46 5 w.heap.size w.heap.size (Lib.byteCells (Ip.txt (Ip.digs (s.data.toList.take k)))) wr ∧ Below w.heap.size w wr) (fun i _ => s.size - (intOf i).toNat)
  case atStart =>
    exact ⟨0, Nat.zero_le _, rfl, builder_fresh w, (Below.refl _ _).alloc (Nat.le_refl _) _⟩
  case round =>
    obtain ⟨k, hk, rfl, hI, hb⟩ := hrel
    by_cases hlt : k < s.size
    · have hA := H.out k hlt
      have hsz := hb.size
      have hAi := (Ip.isA_iff _).1 hA
      have hstep := Ip.digs_take s k hlt
      have hlen := Ip.digs_len (s.data.toList.take k)
      have htk : (s.data.toList.take k).length ≤ k := List.length_take_le _ _
      have HS := Lib.hid hstep
      clear hstep
      rcases hD : Ip.isD (s[k]'hlt).toNat with _ | _
      · have hDn : ¬ (48 ≤ (s[k]'hlt).toNat ∧ (s[k]'hlt).toNat ≤ 57) := fun g => by rw [(Ip.isD_iff _).2 g] at hD; cases hD
        have eL := Lib.hid (Ip.dig1_L (s[k]'hlt) hA hD)
        have hl2 := Ip.dig1_len (s[k]'hlt)
        go_wp2_with (go_at_call 18; refine (digit_any _ _).mono ?_; rintro e w' ⟨rfl, rfl⟩)
        rw [show ((s[k]'hlt).toNat : Int) - 65 + 10 = (((s[k]'hlt).toNat - 55 : Nat) : Int) by omega]
        refine (Tryd.strconv_Itoa_small _ (by omega) _).mono ?_
        rintro e w1 ⟨rfl, hw1⟩
        rw [hw1, ← eL.out]
        clear hw1
        go_wp2_with fail
        refine (Tryd.Builder_WriteString w.heap.size w.heap.size _ ⟨(Ip.txt (Ip.dig1 (s[k]'hlt))).toArray⟩ _ hI (by rw [Lib.byteCells_length, Ip.txt_len, size_of_list, Ip.txt_len]; omega) hsz).mono ?_
        rintro e w2 ⟨rfl, h2, b2⟩
        go_wp2_with fail
        go_roundw
        case rel => exact ⟨k + 1, by omega, by go_num, by rw [HS.out, Ip.txt_append, Lib.byteCells_append]; exact Or.inr h2, hb.trans b2⟩
        case measure => simp [intOf]; omega
      · have eD := Lib.hid (Ip.dig1_D (s[k]'hlt) hD)
        go_wp2_with (go_at_call 18; refine (digit_any _ _).mono ?_; rintro e w' ⟨rfl, rfl⟩)
        refine (Tryd.Builder_WriteByte w.heap.size w.heap.size _ _ _ hI (by rw [Lib.byteCells_length, Ip.txt_len]; omega) hsz).mono ?_
        rintro e w2 ⟨rfl, h2, b2⟩
        go_wp2_with fail
        go_roundw
        case rel => exact ⟨k + 1, by omega, by go_num, by rw [HS.out, Ip.txt_append, eD.out, Lib.byteCells_append]; exact Or.inr h2, hb.trans b2⟩
        case measure => simp [intOf]; omega
    · have e : s.data.toList.take k = s.data.toList := List.take_of_length_le (by simp; omega)
      rw [e] at hI
      clear e
      go_wp2_with fail
      refine (Tryd.Builder_String_any w.heap.size w.heap.size _ _ hI hb.size).mono ?_
      rintro e w2 ⟨rfl, b2⟩
      go_wp2_with fail
      go_ret
      exact ⟨rfl, hb.trans b2⟩
end Go.Proofs.YtiibgimanfkhdaaDoor
