/- THE CONTRACTS of the reference's Luhn, may, begins, ISIN. -/
import Derived.Test.YtiibgimanfkhdaaDoorRef
namespace Go.Proofs.YtiibgimanfkhdaaDoor
open Go.RowKit
set_option linter.unusedVariables false

theorem dig1_pos (c : UInt8) : 0 < (Ip.dig1 c).length := by unfold Ip.dig1; split <;> simp
theorem digs_pos (l : List UInt8) (h : 0 < l.length) : 0 < (Ip.digs l).length := by
  rcases l with _ | ⟨c, l⟩
  · simp at h
  · have := dig1_pos c
    have e : Ip.digs (c :: l) = Ip.dig1 c ++ Ip.digs l := by unfold Ip.digs; simp
    rw [e, List.length_append]; omega
theorem rexpand_any (s : ByteArray) (hpos : 0 < s.size) (hs : s.size ≤ 1000) (h : ∀ (i : Nat) (hi : i < s.size), Ip.isA (s[i]'hi).toNat = true) (w : World) :
    Calls Tryd.prog 40 #[.string s] w fun e w' => ∃ g cap, e = .returned (.slice (some ⟨g, 0, none⟩) (Ip.digs s.data.toList).length cap) ∧ (Ip.digs s.data.toList).length ≤ cap ∧
      (∀ i, i < (Ip.digs s.data.toList).length → w'.cell? ⟨g, 0 + i, none⟩ = some (.int .i64 ((Ip.digs s.data.toList).getD i 0 : Nat))) ∧ Below w.heap.size w w' := by
  refine (rexpand_own s hs h w).mono ?_
  rintro e w' ⟨v, rfl, hown, hb⟩
  have hp := digs_pos s.data.toList (by simpa using hpos)
  generalize Ip.digs s.data.toList = l at *
  obtain ⟨h1, ⟨_, h2⟩ | ⟨g, cap, cur, rfl, hB, hbk, hn, hm, hcs, ht⟩⟩ := hown
  · omega
  · refine ⟨g, cap, rfl, hn, fun i hi => ?_, hb⟩
    have e1 : cur.toList.take (l.length * 1) = ints l := ht
    have : (ints l)[i]? = some (.int .i64 (l.getD i 0 : Nat)) := by
      unfold ints
      rw [List.getElem?_map, List.getElem?_eq_getElem hi, List.getD_eq_getElem?_getD, List.getElem?_eq_getElem hi]; rfl
    rw [← e1, List.getElem?_take_of_lt (by omega)] at this
    simp only [World.cell?, hbk, Nat.zero_add]
    simpa using this
theorem rsum_even (ds : List Nat) (n k d : Nat) (hn : n = ds.length) (hd : d = ds.getD (n - 1 - k) 0) (h : k % 2 = 0) : (Ip.lsum ds (k + 1) : Int) = Ip.lsum ds k + 2 * (d : Int) / 10 + 2 * (d : Int) % 10 := by
  rw [Ip.lsum, ← hn, ← hd]
  unfold Ip.lf
  rw [if_pos h]
  omega
theorem rsum_odd (ds : List Nat) (n k d : Nat) (hn : n = ds.length) (hd : d = ds.getD (n - 1 - k) 0) (h : ¬ k % 2 = 0) : (Ip.lsum ds (k + 1) : Int) = Ip.lsum ds k + (d : Int) / 10 + (d : Int) % 10 := by
  rw [Ip.lsum, ← hn, ← hd]
  unfold Ip.lf
  rw [if_neg h]
  omega

set_option maxHeartbeats 800000 in
theorem rluhn_any (s : ByteArray) (hpos : 0 < s.size) (hs : s.size ≤ 1000) (h : ∀ (i : Nat) (hi : i < s.size), Ip.isA (s[i]'hi).toNat = true) (w : World) :
    Calls Tryd.prog 28 #[.string s] w fun e w' => e = .returned (.int .i64 (Ip.luhn (Ip.digs s.data.toList) : Nat)) ∧ Below w.heap.size w w' := by
  have hal : Ip.allA s.data.toList := Ip.allA_of s h
  have hlt := Ip.digs_lt _ hal
  have hlen := Ip.digs_len s.data.toList
  have hsl : s.data.toList.length = s.size := by simp
  rw [hsl] at hlen
  have HE := Lib.hid (rexpand_any s hpos hs h)
  generalize Ip.digs s.data.toList = ds at *
  obtain ⟨n, hn⟩ : ∃ n, n = ds.length := ⟨_, rfl⟩
  have HN := Lib.hid hn
  have HLT := Lib.hid hlt
  have hn2 : n ≤ 2000 := by omega
  clear hlt hsl hal h hlen hn
  go_enter Tryd.func28, Tryd.ntmps28
  go_wp2_with fail
  refine (HE.out _).mono ?_
  rw [← HN.out]
  rintro e w1 ⟨g, cap, rfl, hcap, hcells, hb1⟩
  have HC := Lib.hid hcells
  clear hcells
  go_wp2_with fail
  go_loop [4, 5] (fun a i => ∃ k : Nat, k ≤ n ∧ i = .int .i64 k ∧ a = .int .i64 (Ip.lsum ds k : Nat)) (fun _ i => n - (intOf i).toNat)
  case atStart => exact ⟨0, Nat.zero_le _, rfl, rfl⟩
  case round =>
    obtain ⟨k, hk, rfl, rfl⟩ := hrel
    have hle := Ip.lsum_le ds HLT.out k
    by_cases hlt : k < n
    · have hx := HC.out (n - 1 - k) (by omega)
      have hd9 := Ip.getD_lt ds HLT.out (n - 1 - k)
      obtain ⟨d, hd⟩ : ∃ d, d = ds.getD (n - 1 - k) 0 := ⟨_, rfl⟩
      rw [← hd, Nat.zero_add] at hx
      rw [← hd] at hd9
      have HD := Lib.hid hd
      clear hd
      by_cases hev : k % 2 = 0
      · have te : ((k : Int) % 2 == 0) = true := by simp; omega
        go_wp2_with fail
        go_round
        case rel => exact ⟨k + 1, by omega, by go_num, by rw [rsum_even ds n k d HN.out HD.out hev]⟩
        case measure => simp [intOf]; omega
      · have te : ((k : Int) % 2 == 0) = false := by simp; omega
        go_wp2_with fail
        go_round
        case rel => exact ⟨k + 1, by omega, by go_num, by rw [rsum_odd ds n k d HN.out HD.out hev]⟩
        case measure => simp [intOf]; omega
    · have hkt : k = n := by omega
      have hlu := Lib.hid (Ip.luhn_int ds k (hkt.trans HN.out))
      have hl9 := Ip.luhn_lt ds
      clear hkt
      go_wp2_with fail
      go_ret
      exact ⟨by rw [← hlu.out]; rfl, hb1⟩

set_option maxHeartbeats 800000 in
theorem may_lo (i c : Nat) (hi : i < 2) (hc : Ip.isL c = true) (w : World) : Calls Tryd.prog 39 #[.int .i64 0, .int .i64 i, .int .u8 c] w fun e w' => e = .returned (.bool true) ∧ w = w' := by
  have h1 : (i : Int) < 2 := by omega
  have H := Lib.hid (rletter_any c)
  rw [hc] at H
  clear hi hc
  go_enter Tryd.func39, Tryd.ntmps39
  go_wp2_with fail
  refine (H.out _).mono ?_; rintro e w' ⟨rfl, rfl⟩
  go_wp2_with fail
  go_ret
  exact ⟨rfl, rfl⟩
set_option maxHeartbeats 800000 in
theorem may_hi (i c : Nat) (h2 : 2 ≤ i) (h11 : i < 11) (hc : Ip.isA c = true) (w : World) : Calls Tryd.prog 39 #[.int .i64 0, .int .i64 i, .int .u8 c] w fun e w' => e = .returned (.bool true) ∧ w = w' := by
  have h1 : ¬ (i : Int) < 2 := by omega
  have h3 : (2 : Int) ≤ (i : Int) := by omega
  have h4 : (i : Int) < 11 := by omega
  have H := Lib.hid (rletter_any c)
  have H2 := Lib.hid (rdigit_any c)
  unfold Ip.isA at hc
  clear h2 h11
  rcases hl : Ip.isL c with _ | _
  · rw [hl] at H hc
    rw [Bool.false_or] at hc
    rw [hc] at H2
    go_enter Tryd.func39, Tryd.ntmps39
    go_wp2_with fail
    refine (H.out _).mono ?_; rintro e w' ⟨rfl, rfl⟩
    go_wp2_with fail
    refine (H2.out _).mono ?_; rintro e w' ⟨rfl, rfl⟩
    go_wp2_with fail
    go_ret
    exact ⟨rfl, rfl⟩
  · rw [hl] at H
    clear hc
    go_enter Tryd.func39, Tryd.ntmps39
    go_wp2_with fail
    refine (H.out _).mono ?_; rintro e w' ⟨rfl, rfl⟩
    go_wp2_with fail
    go_ret
    exact ⟨rfl, rfl⟩
/-- Two letters, then letters and digits. -/
def Body (s : ByteArray) : Prop := ∀ (i : Nat) (hi : i < s.size), (i < 2 → Ip.isL (s[i]'hi).toNat = true) ∧ Ip.isA (s[i]'hi).toNat = true
theorem may_body (s : ByteArray) (h : Body s) (i : Nat) (hi : i < s.size) (h11 : i < 11) (w : World) : Calls Tryd.prog 39 #[.int .i64 0, .int .i64 i, .int .u8 (s[i]'hi).toNat] w fun e w' => e = .returned (.bool true) ∧ w = w' := by
  by_cases h2 : i < 2
  · exact may_lo i _ h2 ((h i hi).1 h2) w
  · exact may_hi i _ (by omega) h11 (h i hi).2 w
set_option maxHeartbeats 800000 in
theorem begins_ok (s : ByteArray) (hs : s.size = 11) (h : Body s) (w : World) : Calls Tryd.prog 27 #[.int .i64 0, .int .i64 11, .string s] w fun e w' => e = .returned (.int .i64 0) ∧ w = w' := by
  have hz : (s.size : Int) = 11 := by omega
  have HM := Lib.hid (may_body s h)
  clear h
  go_enter Tryd.func27, Tryd.ntmps27
  go_wp2_with fail
  go_loop [7] (fun i => ∃ k : Nat, k ≤ 11 ∧ i = .int .i64 k) (fun i => 11 - (intOf i).toNat)
  case atStart => exact ⟨0, Nat.zero_le _, rfl⟩
  case round =>
    obtain ⟨k, hk, rfl⟩ := hrel
    by_cases hlt : k < 11
    · have hks : k < s.size := by omega
      have hki : (k : Int) < 11 := by omega
      have HK := Lib.hid (HM.out k hks hlt)
      go_wp2_with fail
      refine (HK.out _).mono ?_; rintro e w' ⟨rfl, rfl⟩
      go_wp2_with fail
      go_round
      case rel => exact ⟨k + 1, by omega, by go_num⟩
      case measure => simp [intOf]; omega
    · have hki : ¬ (k : Int) < 11 := by omega
      go_wp2_with fail
      go_ret
      exact ⟨rfl, rfl⟩
set_option maxHeartbeats 800000 in
theorem risin_ok (s : ByteArray) (hs : s.size = 11) (h : Body s) (w : World) : Calls Tryd.prog 15 #[.string s] w fun e w' => e = .returned (.tuple #[.int .u8 ((48 + Ip.luhn (Ip.digs s.data.toList) : Nat) : Int), .int .i64 0]) ∧ Below w.heap.size w w' := by
  have HB := Lib.hid (begins_ok s hs h)
  have HL := Lib.hid (rluhn_any s (by omega) (by omega) (fun i hi => (h i hi).2))
  have hl9 := Ip.luhn_lt (Ip.digs s.data.toList)
  generalize Ip.luhn (Ip.digs s.data.toList) = d at *
  clear h hs
  go_enter Tryd.func15, Tryd.ntmps15
  go_wp2_with fail
  refine (HB.out _).mono ?_; rintro e w' ⟨rfl, rfl⟩
  go_wp2_with fail
  refine (HL.out _).mono ?_; rintro e w1 ⟨rfl, hb1⟩
  go_wp2_with fail
  go_ret2
  exact ⟨by simp, hb1⟩
end Go.Proofs.YtiibgimanfkhdaaDoor
