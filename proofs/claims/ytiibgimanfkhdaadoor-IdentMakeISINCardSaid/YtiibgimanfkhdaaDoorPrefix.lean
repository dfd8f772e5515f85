/- THE CONTRACT of ident.prefix where no character is outside its class: three cases, by the length. -/
import Derived.Test.YtiibgimanfkhdaaDoorClasses
namespace Go.Proofs.YtiibgimanfkhdaaDoor
open Go.RowKit
set_option linter.unusedVariables false

theorem getD_mem' (l : List Nat) (k : Nat) (h : k < l.length) : l.getD k 0 ∈ l := by
  rw [List.getD_eq_getElem?_getD, List.getElem?_eq_getElem h]; exact List.getElem_mem h
set_option maxHeartbeats 800000 in
theorem prefix_short (l : List Nat) (hlf : ∀ f ∈ l, f = 9 ∨ f = 10 ∨ f = 18 ∨ f = 72) (g off cap sh : Nat) (s : ByteArray) (hs : s.size ≤ 1000) (hll : l.length ≤ 1000) (w : World)
    (hc : ∀ i, i < l.length → w.cell? ⟨g, off + i, none⟩ = some (fnv (l.getD i 0))) (hok : ∀ (i : Nat) (hi : i < s.size), i < l.length → Ip.isC (l.getD i 0) (s[i]'hi).toNat = true) (hlen : s.size < sh) (hsh : sh ≤ 1000) :
    Calls Tryd.prog 29 #[.slice (some ⟨g, off, none⟩) l.length cap, .int .i64 sh, .string s] w fun e w' => e = .returned (.tuple #[.int .i64 s.size, .int .i64 4]) ∧ w = w' := by
  have HC := Lib.hid hc
  have HOK := Lib.hid hok
  have HLF := Lib.hid hlf
  clear hc hok hlf
  go_enter Tryd.func29, Tryd.ntmps29
  go_wp2_with fail
  go_loop [12] (fun i => ∃ k : Nat, k ≤ l.length ∧ i = .int .i64 k) (fun i => l.length - (intOf i).toNat)
  case atStart => exact ⟨0, Nat.zero_le _, rfl⟩
  case round =>
    obtain ⟨k, hk, rfl⟩ := hrel
    by_cases hlt : k < l.length
    · have hcell := HC.out k hlt
      unfold fnv at hcell
      by_cases hks : k < s.size
      · have hx := HOK.out k hks hlt
        have hf := HLF.out _ (getD_mem' l k hlt)
        generalize l.getD k 0 = f at *
        have HX := Lib.hid hx
        clear hx
        rcases hf with rfl | rfl | rfl | rfl
        · have hx : Ip.isL (s[k]'hks).toNat = true := HX.out
          go_wp2_with (go_at_call 9; refine (letter_any _ _).mono ?_; rintro e w' ⟨rfl, rfl⟩)
          go_round
          case rel => exact ⟨k + 1, by omega, by go_num⟩
          case measure => simp [intOf]; omega
        · have hx : Ip.isA (s[k]'hks).toNat = true := HX.out
          go_wp2_with (go_at_call 10; refine (alnum_any _ _).mono ?_; rintro e w' ⟨rfl, rfl⟩)
          go_round
          case rel => exact ⟨k + 1, by omega, by go_num⟩
          case measure => simp [intOf]; omega
        · have hx : Ip.isD (s[k]'hks).toNat = true := HX.out
          go_wp2_with (go_at_call 18; refine (digit_any _ _).mono ?_; rintro e w' ⟨rfl, rfl⟩)
          go_round
          case rel => exact ⟨k + 1, by omega, by go_num⟩
          case measure => simp [intOf]; omega
        · have hx : Ip.isR (s[k]'hks).toNat = true := HX.out
          go_wp2_with (go_at_call 72; refine (refch_any _ _).mono ?_; rintro e w' ⟨rfl, rfl⟩)
          go_round
          case rel => exact ⟨k + 1, by omega, by go_num⟩
          case measure => simp [intOf]; omega
      · go_wp2_with fail
        go_round
        case rel => exact ⟨k + 1, by omega, by go_num⟩
        case measure => simp [intOf]; omega
    · go_wp2_with fail
      go_ret2
      exact ⟨rfl, rfl⟩
set_option maxHeartbeats 800000 in
theorem prefix_fits (l : List Nat) (hlf : ∀ f ∈ l, f = 9 ∨ f = 10 ∨ f = 18 ∨ f = 72) (g off cap sh : Nat) (s : ByteArray) (hs : s.size ≤ 1000) (hll : l.length ≤ 1000) (w : World)
    (hc : ∀ i, i < l.length → w.cell? ⟨g, off + i, none⟩ = some (fnv (l.getD i 0))) (hok : ∀ (i : Nat) (hi : i < s.size), i < l.length → Ip.isC (l.getD i 0) (s[i]'hi).toNat = true) (hlen : sh ≤ s.size) (hlen2 : s.size ≤ l.length) :
    Calls Tryd.prog 29 #[.slice (some ⟨g, off, none⟩) l.length cap, .int .i64 sh, .string s] w fun e w' => e = .returned (.tuple #[.int .i64 0, .int .i64 0]) ∧ w = w' := by
  have HC := Lib.hid hc
  have HOK := Lib.hid hok
  have HLF := Lib.hid hlf
  clear hc hok hlf
  go_enter Tryd.func29, Tryd.ntmps29
  go_wp2_with fail
  go_loop [12] (fun i => ∃ k : Nat, k ≤ l.length ∧ i = .int .i64 k) (fun i => l.length - (intOf i).toNat)
  case atStart => exact ⟨0, Nat.zero_le _, rfl⟩
  case round =>
    obtain ⟨k, hk, rfl⟩ := hrel
    by_cases hlt : k < l.length
    · have hcell := HC.out k hlt
      unfold fnv at hcell
      by_cases hks : k < s.size
      · have hx := HOK.out k hks hlt
        have hf := HLF.out _ (getD_mem' l k hlt)
        generalize l.getD k 0 = f at *
        have HX := Lib.hid hx
        clear hx
        rcases hf with rfl | rfl | rfl | rfl
        · have hx : Ip.isL (s[k]'hks).toNat = true := HX.out
          go_wp2_with (go_at_call 9; refine (letter_any _ _).mono ?_; rintro e w' ⟨rfl, rfl⟩)
          go_round
          case rel => exact ⟨k + 1, by omega, by go_num⟩
          case measure => simp [intOf]; omega
        · have hx : Ip.isA (s[k]'hks).toNat = true := HX.out
          go_wp2_with (go_at_call 10; refine (alnum_any _ _).mono ?_; rintro e w' ⟨rfl, rfl⟩)
          go_round
          case rel => exact ⟨k + 1, by omega, by go_num⟩
          case measure => simp [intOf]; omega
        · have hx : Ip.isD (s[k]'hks).toNat = true := HX.out
          go_wp2_with (go_at_call 18; refine (digit_any _ _).mono ?_; rintro e w' ⟨rfl, rfl⟩)
          go_round
          case rel => exact ⟨k + 1, by omega, by go_num⟩
          case measure => simp [intOf]; omega
        · have hx : Ip.isR (s[k]'hks).toNat = true := HX.out
          go_wp2_with (go_at_call 72; refine (refch_any _ _).mono ?_; rintro e w' ⟨rfl, rfl⟩)
          go_round
          case rel => exact ⟨k + 1, by omega, by go_num⟩
          case measure => simp [intOf]; omega
      · go_wp2_with fail
        go_round
        case rel => exact ⟨k + 1, by omega, by go_num⟩
        case measure => simp [intOf]; omega
    · go_wp2_with fail
      go_ret2
      exact ⟨rfl, rfl⟩
end Go.Proofs.YtiibgimanfkhdaaDoor
