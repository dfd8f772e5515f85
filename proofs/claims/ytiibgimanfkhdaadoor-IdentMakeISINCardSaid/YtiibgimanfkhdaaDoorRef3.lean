/- THE CONTRACT of the reference's Make, case by case. -/
import Derived.Test.YtiibgimanfkhdaaDoorRef2
import Derived.Laws.IdiomStrings
namespace Go.Proofs.YtiibgimanfkhdaaDoor
open Go.RowKit
set_option linter.unusedVariables false

set_option maxHeartbeats 800000 in
theorem rmake_1 (c n : ByteArray) (hc : ¬ c.size = 2) (w : World) : Calls Tryd.prog 5 #[.string c, .string n] w fun x w' => x = .returned (.tuple #[.string ⟨#[]⟩, .int .i64 3]) ∧ w = w' := by
  have h1 : ¬ (c.size : Int) = 2 := by omega
  clear hc
  go_enter Tryd.func5, Tryd.ntmps5
  go_wp2_with fail
  go_ret2
  exact ⟨rfl, rfl⟩
set_option maxHeartbeats 800000 in
theorem rmake_2a (c n : ByteArray) (hc : c.size = 2) (h : Ip.isL (c[0]'(by omega)).toNat = false) (w : World) : Calls Tryd.prog 5 #[.string c, .string n] w fun x w' => x = .returned (.tuple #[.string ⟨#[]⟩, .int .i64 3]) ∧ w = w' := by
  have h1 : (c.size : Int) = 2 := by omega
  have H := Lib.hid (rletter_any (c[0]'(by omega)).toNat)
  rw [h] at H
  clear h
  go_enter Tryd.func5, Tryd.ntmps5
  go_wp2_with fail
  refine (H.out _).mono ?_; rintro x w1 ⟨rfl, rfl⟩
  go_wp2_with fail
  go_ret2
  exact ⟨rfl, rfl⟩
set_option maxHeartbeats 800000 in
theorem rmake_2b (c n : ByteArray) (hc : c.size = 2) (h : Ip.isL (c[0]'(by omega)).toNat = true) (h' : Ip.isL (c[1]'(by omega)).toNat = false) (w : World) : Calls Tryd.prog 5 #[.string c, .string n] w fun x w' => x = .returned (.tuple #[.string ⟨#[]⟩, .int .i64 3]) ∧ w = w' := by
  have h1 : (c.size : Int) = 2 := by omega
  have H := Lib.hid (rletter_any (c[0]'(by omega)).toNat)
  have H2 := Lib.hid (rletter_any (c[1]'(by omega)).toNat)
  rw [h] at H
  rw [h'] at H2
  clear h h'
  go_enter Tryd.func5, Tryd.ntmps5
  go_wp2_with fail
  refine (H.out _).mono ?_; rintro x w1 ⟨rfl, rfl⟩
  go_wp2_with fail
  refine (H2.out _).mono ?_; rintro x w1 ⟨rfl, rfl⟩
  go_wp2_with fail
  go_ret2
  exact ⟨rfl, rfl⟩
set_option maxHeartbeats 800000 in
theorem rmake_3 (c n : ByteArray) (hc : c.size = 2) (hL : ∀ (i : Nat) (hi : i < c.size), Ip.isL (c[i]'hi).toNat = true) (hn : n.size ≤ 1000) (j : Nat) (hj : j < n.size) (h : Ip.isA (n[j]'hj).toNat = false) (w : World) :
    Calls Tryd.prog 5 #[.string c, .string n] w fun x w' => x = .returned (.tuple #[.string ⟨#[]⟩, .int .i64 3]) ∧ w = w' := by
  have h1 : (c.size : Int) = 2 := by omega
  have H := Lib.hid (rletter_any (c[0]'(by omega)).toNat)
  have H2 := Lib.hid (rletter_any (c[1]'(by omega)).toNat)
  rw [hL 0 (by omega)] at H
  rw [hL 1 (by omega)] at H2
  have HJ := Lib.hid h
  clear hL h
  go_enter Tryd.func5, Tryd.ntmps5
  go_wp2_with fail
  refine (H.out _).mono ?_; rintro x w1 ⟨rfl, rfl⟩
  go_wp2_with fail
  refine (H2.out _).mono ?_; rintro x w1 ⟨rfl, rfl⟩
  go_wp2_with fail
  go_loop [6] (fun i => ∃ k : Nat, k ≤ j ∧ i = .int .i64 k) (fun i => n.size - (intOf i).toNat)
  case atStart => exact ⟨0, Nat.zero_le _, rfl⟩
  case round =>
    obtain ⟨k, hk, rfl⟩ := hrel
    have hlt : k < n.size := by omega
    have H3 := Lib.hid (rletter_any (n[k]'hlt).toNat)
    have H4 := Lib.hid (rdigit_any (n[k]'hlt).toNat)
    rcases hA : Ip.isA (n[k]'hlt).toNat with _ | _
    · rw [Ip.isA] at hA
      obtain ⟨hA1, hA2⟩ := Bool.or_eq_false_iff.1 hA
      rw [hA1] at H3
      rw [hA2] at H4
      clear hA hA1 hA2
      go_wp2_with fail
      refine (H3.out _).mono ?_; rintro x w1 ⟨rfl, rfl⟩
      go_wp2_with fail
      refine (H4.out _).mono ?_; rintro x w1 ⟨rfl, rfl⟩
      go_wp2_with fail
      go_ret2
      exact ⟨rfl, rfl⟩
    · have hkj : k < j := by
        rcases Nat.lt_or_eq_of_le hk with h | h
        · exact h
        · subst h; rw [HJ.out] at hA; cases hA
      rw [Ip.isA] at hA
      rcases hl : Ip.isL (n[k]'hlt).toNat with _ | _
      · rw [hl] at H3 hA
        rw [Bool.false_or] at hA
        rw [hA] at H4
        clear hA hl
        go_wp2_with fail
        refine (H3.out _).mono ?_; rintro x w1 ⟨rfl, rfl⟩
        go_wp2_with fail
        refine (H4.out _).mono ?_; rintro x w1 ⟨rfl, rfl⟩
        go_wp2_with fail
        go_round
        case rel => exact ⟨k + 1, by omega, by go_num⟩
        case measure => simp [intOf] <;> omega
      · rw [hl] at H3
        clear hA hl H4
        go_wp2_with fail
        refine (H3.out _).mono ?_; rintro x w1 ⟨rfl, rfl⟩
        go_wp2_with fail
        go_round
        case rel => exact ⟨k + 1, by omega, by go_num⟩
        case measure => simp [intOf] <;> omega
set_option maxHeartbeats 800000 in
theorem rmake_4 (c n : ByteArray) (hc : c.size = 2) (hL : ∀ (i : Nat) (hi : i < c.size), Ip.isL (c[i]'hi).toNat = true) (hn : n.size = 0) (w : World) :
    Calls Tryd.prog 5 #[.string c, .string n] w fun x w' => x = .returned (.tuple #[.string ⟨#[]⟩, .int .i64 4]) ∧ w = w' := by
  have h1 : (c.size : Int) = 2 := by omega
  have H := Lib.hid (rletter_any (c[0]'(by omega)).toNat)
  have H2 := Lib.hid (rletter_any (c[1]'(by omega)).toNat)
  rw [hL 0 (by omega)] at H
  rw [hL 1 (by omega)] at H2
  have HA : Hid (∀ (i : Nat) (hi : i < n.size), Ip.isA (n[i]'hi).toNat = true) := Lib.hid fun i hi => by omega
  have hz : (n.size : Int) = 0 := by omega
  clear hL
  go_enter Tryd.func5, Tryd.ntmps5
  go_wp2_with fail
  refine (H.out _).mono ?_; rintro x w1 ⟨rfl, rfl⟩
  go_wp2_with fail
  refine (H2.out _).mono ?_; rintro x w1 ⟨rfl, rfl⟩
  go_wp2_with fail
  go_loop [6] (fun i => ∃ k : Nat, k ≤ n.size ∧ i = .int .i64 k) (fun i => n.size - (intOf i).toNat)
  case atStart => exact ⟨0, Nat.zero_le _, rfl⟩
  case round =>
    obtain ⟨k, hk, rfl⟩ := hrel
    by_cases hlt : k < n.size
    · omega
    · have hkn : k = n.size := by omega
      clear hkn
      go_wp2_with fail
      go_ret2
      exact ⟨rfl, rfl⟩
set_option maxHeartbeats 800000 in
theorem rmake_5 (c n : ByteArray) (hc : c.size = 2) (hL : ∀ (i : Nat) (hi : i < c.size), Ip.isL (c[i]'hi).toNat = true) (hn : n.size ≤ 1000) (hA : ∀ (i : Nat) (hi : i < n.size), Ip.isA (n[i]'hi).toNat = true) (h9 : 9 < n.size) (w : World) :
    Calls Tryd.prog 5 #[.string c, .string n] w fun x w' => x = .returned (.tuple #[.string ⟨#[]⟩, .int .i64 5]) ∧ w = w' := by
  have h1 : (c.size : Int) = 2 := by omega
  have H := Lib.hid (rletter_any (c[0]'(by omega)).toNat)
  have H2 := Lib.hid (rletter_any (c[1]'(by omega)).toNat)
  rw [hL 0 (by omega)] at H
  rw [hL 1 (by omega)] at H2
  have HA := Lib.hid hA
  have hz : ¬ (n.size : Int) = 0 := by omega
  have hz9 : (9 : Int) < (n.size : Int) := by omega
  clear hL hA
  go_enter Tryd.func5, Tryd.ntmps5
  go_wp2_with fail
  refine (H.out _).mono ?_; rintro x w1 ⟨rfl, rfl⟩
  go_wp2_with fail
  refine (H2.out _).mono ?_; rintro x w1 ⟨rfl, rfl⟩
  go_wp2_with fail
  go_loop [6] (fun i => ∃ k : Nat, k ≤ n.size ∧ i = .int .i64 k) (fun i => n.size - (intOf i).toNat)
  case atStart => exact ⟨0, Nat.zero_le _, rfl⟩
  case round =>
    obtain ⟨k, hk, rfl⟩ := hrel
    by_cases hlt : k < n.size
    · have H3 := Lib.hid (rletter_any (n[k]'hlt).toNat)
      have H4 := Lib.hid (rdigit_any (n[k]'hlt).toNat)
      have hA := HA.out k hlt
      rw [Ip.isA] at hA
      rcases hl : Ip.isL (n[k]'hlt).toNat with _ | _
      · rw [hl] at H3 hA
        rw [Bool.false_or] at hA
        rw [hA] at H4
        clear hA hl
        go_wp2_with fail
        refine (H3.out _).mono ?_; rintro x w1 ⟨rfl, rfl⟩
        go_wp2_with fail
        refine (H4.out _).mono ?_; rintro x w1 ⟨rfl, rfl⟩
        go_wp2_with fail
        go_round
        case rel => exact ⟨k + 1, by omega, by go_num⟩
        case measure => simp [intOf] <;> omega
      · rw [hl] at H3
        clear hA hl H4
        go_wp2_with fail
        refine (H3.out _).mono ?_; rintro x w1 ⟨rfl, rfl⟩
        go_wp2_with fail
        go_round
        case rel => exact ⟨k + 1, by omega, by go_num⟩
        case measure => simp [intOf] <;> omega
    · have hkn : k = n.size := by omega
      clear hkn
      go_wp2_with fail
      go_ret2
      exact ⟨rfl, rfl⟩
def ssz : Value → Nat
  | .string s => s.size
  | _ => 0
def zeros (m : Nat) : ByteArray := ⟨(Lib.repeatL [48] m).toArray⟩
theorem zeros_size (m : Nat) : (zeros m).size = m := by unfold zeros; rw [size_of_list, Lib.repeatL_length]; simp
theorem zeros_succ (m : Nat) (n : ByteArray) : (⟨#[48]⟩ : ByteArray) ++ (zeros m ++ n) = zeros (m + 1) ++ n := by
  rw [← ByteArray.append_assoc]
  congr 1
theorem zeros_zero (n : ByteArray) : zeros 0 ++ n = n := by
  apply ByteArray.ext
  simp [zeros, Lib.repeatL]
theorem conv_one (d : Nat) (hd : d < 10) (W : World) : Sem.run Tryd.prog (convert 36 9 (.slice (some ⟨W.heap.size, 0, none⟩) 1 1)) (W.alloc (.cells #[.int .u8 (48 + (d : Int))] 5)) = .ok (.string ⟨#[UInt8.ofNat (48 + d)]⟩) (W.alloc (.cells #[.int .u8 (48 + (d : Int))] 5)) := by
  have e : ((UInt8.ofNat (48 + d)).toNat : Int) = 48 + (d : Int) := by
    rw [UInt8.toNat_ofNat']
    omega
  refine run_convert_bytes_back (W.alloc (.cells #[.int .u8 (48 + (d : Int))] 5)) 36 9 5 ⟨W.heap.size, 0, none⟩ 1 [UInt8.ofNat (48 + d)] Tryd.underlying36 Tryd.underlying5 Tryd.underlying9 ?_
  intro j hj
  have hj0 : j = 0 := by simpa using hj
  subst hj0
  show _ = some (Value.int .u8 ((UInt8.ofNat (48 + d)).toNat : Int))
  rw [e]
  simp [World.cell?_alloc_new, Addr.add]
set_option maxHeartbeats 800000 in
theorem rmake_6 (c n : ByteArray) (d : Nat) (hc : c.size = 2) (hL : ∀ (i : Nat) (hi : i < c.size), Ip.isL (c[i]'hi).toNat = true) (hn : 0 < n.size) (hA : ∀ (i : Nat) (hi : i < n.size), Ip.isA (n[i]'hi).toNat = true) (h9 : n.size ≤ 9)
    (hl : ∀ W, Calls Tryd.prog 15 #[.string (c ++ (zeros (9 - n.size) ++ n))] W fun e w' => e = .returned (.tuple #[.int .u8 ((48 + d : Nat) : Int), .int .i64 0]) ∧ Below W.heap.size W w') (hd : d < 10) (w : World) :
    Calls Tryd.prog 5 #[.string c, .string n] w fun x w' => x = .returned (.tuple #[.string (c ++ (zeros (9 - n.size) ++ n) ++ ⟨#[UInt8.ofNat (48 + d)]⟩), .int .i64 0]) ∧ Below w.heap.size w w' := by
  have h1 : (c.size : Int) = 2 := by omega
  have H := Lib.hid (rletter_any (c[0]'(by omega)).toNat)
  have H2 := Lib.hid (rletter_any (c[1]'(by omega)).toNat)
  rw [hL 0 (by omega)] at H
  rw [hL 1 (by omega)] at H2
  have HL := Lib.hid hl
  have HA := Lib.hid hA
  have hz : ¬ (n.size : Int) = 0 := by omega
  have hz9 : ¬ (9 : Int) < (n.size : Int) := by omega
  have hconv := conv_one d hd
  clear hL hl hA
  go_enter Tryd.func5, Tryd.ntmps5
  go_wp2_with fail
  refine (H.out _).mono ?_; rintro x w1 ⟨rfl, rfl⟩
  go_wp2_with fail
  refine (H2.out _).mono ?_; rintro x w1 ⟨rfl, rfl⟩
  go_wp2_with fail
  go_loop [6] (fun i => ∃ k : Nat, k ≤ n.size ∧ i = .int .i64 k) (fun i => n.size - (intOf i).toNat)
  case atStart => exact ⟨0, Nat.zero_le _, rfl⟩
  case round =>
    obtain ⟨k, hk, rfl⟩ := hrel
    by_cases hlt : k < n.size
    · have H3 := Lib.hid (rletter_any (n[k]'hlt).toNat)
      have H4 := Lib.hid (rdigit_any (n[k]'hlt).toNat)
      have hA := HA.out k hlt
      rw [Ip.isA] at hA
      rcases hl : Ip.isL (n[k]'hlt).toNat with _ | _
      · rw [hl] at H3 hA
        rw [Bool.false_or] at hA
        rw [hA] at H4
        clear hA hl
        go_wp2_with fail
        refine (H3.out _).mono ?_; rintro x w1 ⟨rfl, rfl⟩
        go_wp2_with fail
        refine (H4.out _).mono ?_; rintro x w1 ⟨rfl, rfl⟩
        go_wp2_with fail
        go_round
        case rel => exact ⟨k + 1, by omega, by go_num⟩
        case measure => simp [intOf] <;> omega
      · rw [hl] at H3
        clear hA hl H4
        go_wp2_with fail
        refine (H3.out _).mono ?_; rintro x w1 ⟨rfl, rfl⟩
        go_wp2_with fail
        go_round
        case rel => exact ⟨k + 1, by omega, by go_num⟩
        case measure => simp [intOf] <;> omega
    · have hkn : k = n.size := by omega
      clear hkn
      go_wp2_with fail
      go_loop [1] (fun x => ∃ (m : Nat) (t : ByteArray), m ≤ 9 - n.size ∧ t = zeros m ++ n ∧ x = .string t) (fun x => 9 - ssz x)
      case atStart => exact ⟨0, n, Nat.zero_le _, (zeros_zero n).symm, rfl⟩
      case round =>
        obtain ⟨m, t, hm, ht, rfl⟩ := hrel
        have hts : t.size = m + n.size := by rw [ht, ByteArray.size_append, zeros_size]
        have HT := Lib.hid ht
        clear ht
        by_cases hlt9 : t.size < 9
        · have hti : (t.size : Int) < 9 := by omega
          go_wp2_with fail
          go_round
          case rel => exact ⟨m + 1, _, by omega, by rw [HT.out, zeros_succ], rfl⟩
          case measure =>
            show 9 - (((⟨#[48]⟩ : ByteArray) ++ t)).size < 9 - t.size
            rw [ByteArray.size_append]
            have : (⟨#[48]⟩ : ByteArray).size = 1 := rfl
            omega
        · have hti : ¬ (t.size : Int) < 9 := by omega
          have hm9 : m = 9 - n.size := by omega
          rw [← hm9, ← HT.out] at HL
          have ht9 : (t.size : Int) = 9 := by omega
          go_wp2_with fail
          refine (HL.out _).mono ?_; rintro x w1 ⟨rfl, hb1⟩
          go_wp2_with fail
          go_ret2
          exact ⟨by rw [← hm9, ← HT.out]; simp, hb1.alloc hb1.size _⟩
end Go.Proofs.YtiibgimanfkhdaaDoor
