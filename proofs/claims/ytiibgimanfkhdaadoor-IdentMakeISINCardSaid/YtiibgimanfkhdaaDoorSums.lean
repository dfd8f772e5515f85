/- THE CONTRACTS of the two check sums, ident.luhn and ident.mod97, for strings of letters and digits. -/
import Derived.Test.YtiibgimanfkhdaaDoorSmall
namespace Go.Proofs.YtiibgimanfkhdaaDoor
open Go.RowKit

theorem txt_at (ds : List Nat) (t : ByteArray) (ht : t = ⟨(Ip.txt ds).toArray⟩) (hd : ∀ d ∈ ds, d < 10) (i : Nat) (h : i < t.size) : (t[i]'h).toNat = 48 + ds.getD i 0 := by
  subst ht
  have hi : i < ds.length := by rw [size_of_list, Ip.txt_len] at h; exact h
  rw [← Ip.txt_get ds i hi (Ip.getD_lt ds hd i)]
  have hi2 : i < (Ip.txt ds).length := by rw [Ip.txt_len]; exact hi
  rw [List.getD_eq_getElem?_getD, List.getElem?_eq_getElem hi2]
  rfl

set_option maxHeartbeats 800000 in
theorem luhn_any (s : ByteArray) (hs : s.size ≤ 1000) (h : ∀ (i : Nat) (hi : i < s.size), Ip.isA (s[i]'hi).toNat = true) (w : World) :
    Calls Tryd.prog 12 #[.string s] w fun e w' => e = .returned (.string ⟨(Ip.txt [Ip.luhn (Ip.digs s.data.toList)]).toArray⟩) ∧ Below w.heap.size w w' := by
  have hal : Ip.allA s.data.toList := Ip.allA_of s h
  obtain ⟨ds, hds⟩ : ∃ ds, ds = Ip.digs s.data.toList := ⟨_, rfl⟩
  have hlt := Ip.digs_lt _ hal
  have hlen := Ip.digs_len s.data.toList
  rw [← hds] at hlt hlen
  have hsl : s.data.toList.length = s.size := by simp
  rw [hsl] at hlen
  have HLT := Lib.hid hlt
  have HDS := Lib.hid hds
  clear hds hlt hsl hal
  go_enter Tryd.func12, Tryd.ntmps12
  go_wp2_with fail
  refine (expand_any s hs h _).mono ?_
  rintro e w1 ⟨rfl, hb1⟩
  rw [← HDS.out]
  obtain ⟨t, ht⟩ : ∃ t : ByteArray, t = ⟨(Ip.txt ds).toArray⟩ := ⟨_, rfl⟩
  rw [← ht]
  have hts : t.size = ds.length := by rw [ht, size_of_list, Ip.txt_len]
  have HT := Lib.hid ht
  have htl : t.size ≤ 2000 := by omega
  have HTS := Lib.hid hts
  clear ht hts h
  go_wp2_with fail
  go_loop [4, 11] (fun a i => ∃ k : Nat, k ≤ t.size ∧ i = .int .i64 k ∧ a = .int .i64 (Ip.lsum ds k)) (fun _ i => t.size - (intOf i).toNat)
  case atStart => exact ⟨0, Nat.zero_le _, rfl, rfl⟩
  case round =>
    obtain ⟨k, hk, rfl, rfl⟩ := hrel
    have hle := Ip.lsum_le ds HLT.out k
    by_cases hlt : k < t.size
    · have hx := txt_at ds t HT.out HLT.out (t.size - 1 - k) (by omega)
      have hd9 := Ip.getD_lt ds HLT.out (t.size - 1 - k)
      obtain ⟨d, hd⟩ : ∃ d, d = ds.getD (t.size - 1 - k) 0 := ⟨_, rfl⟩
      rw [← hd] at hx hd9
      have HD := Lib.hid hd
      clear hd
      by_cases hev : k % 2 = 0
      · have te : ((k : Int) % 2 == 0) = true := by simp; omega
        go_wp2_with fail
        go_round
        case rel => exact ⟨k + 1, by omega, by go_num, by rw [Ip.lsum_even ds t.size k d HTS.out HD.out hev]⟩
        case measure => simp [intOf]; omega
      · have te : ((k : Int) % 2 == 0) = false := by simp; omega
        go_wp2_with fail
        go_round
        case rel => exact ⟨k + 1, by omega, by go_num, by rw [Ip.lsum_odd ds t.size k d HTS.out HD.out hev]⟩
        case measure => simp [intOf]; omega
    · have hkt : k = t.size := by omega
      have hlu := Lib.hid (Ip.luhn_int ds k (hkt.trans HTS.out))
      have hl9 := Ip.luhn_lt ds
      clear hkt
      go_wp2_with fail
      rw [hlu.out]
      refine (Tryd.strconv_Itoa_small _ (by omega) _).mono ?_
      rintro e w2 ⟨rfl, hw2⟩
      rw [hw2, Ip.dec_one _ hl9]
      clear hw2
      go_wp2_with fail
      go_ret
      exact ⟨by rw [← HDS.out]; rfl, hb1⟩

-- ident.mod97
set_option maxHeartbeats 800000 in
theorem mod97_any (s : ByteArray) (hs : s.size ≤ 1000) (h : ∀ (i : Nat) (hi : i < s.size), Ip.isA (s[i]'hi).toNat = true) (w : World) :
    Calls Tryd.prog 73 #[.string s] w fun e w' => e = .returned (.string ⟨(Ip.mtxt (Ip.digs s.data.toList)).toArray⟩) ∧ Below w.heap.size w w' := by
  have hal : Ip.allA s.data.toList := Ip.allA_of s h
  obtain ⟨ds, hds⟩ : ∃ ds, ds = Ip.digs s.data.toList ++ [0, 0] := ⟨_, rfl⟩
  have hlt : ∀ d ∈ ds, d < 10 := by
    rw [hds]
    intro d hd
    rcases List.mem_append.1 hd with hd | hd
    · exact Ip.digs_lt _ hal d hd
    · simp at hd; omega
  have hlen := Ip.digs_len s.data.toList
  have hl2 : ds.length = (Ip.digs s.data.toList).length + 2 := by rw [hds]; simp
  have hsl : s.data.toList.length = s.size := by simp
  rw [hsl] at hlen
  have hlen2 : ds.length ≤ 2002 := by omega
  have HLT := Lib.hid hlt
  have HDS := Lib.hid hds
  clear hds hlt hsl hal hl2
  go_enter Tryd.func73, Tryd.ntmps73
  go_wp2_with fail
  refine (expand_any s hs h _).mono ?_
  rintro e w1 ⟨rfl, hb1⟩
  obtain ⟨t, ht⟩ : ∃ t : ByteArray, t = ⟨(Ip.txt (Ip.digs s.data.toList)).toArray⟩ := ⟨_, rfl⟩
  rw [← ht]
  have htl : t.size ≤ 2000 := by rw [ht, size_of_list, Ip.txt_len]; omega
  have ht2 := Ip.txt_zeros _ t ht
  rw [← HDS.out] at ht2
  have HT := Lib.hid ht
  have HT2' := Lib.hid ht2
  clear ht h ht2
  go_wp2_with fail
  have ht2 := HT2'.out
  obtain ⟨t2, he2⟩ : ∃ t2 : ByteArray, t2 = t ++ ⟨#[48, 48]⟩ := ⟨_, rfl⟩
  rw [← he2] at ht2
  rw [← he2]
  have hts : t2.size = ds.length := by rw [ht2, size_of_list, Ip.txt_len]
  have ht2l : t2.size ≤ 2002 := by omega
  have HT2 := Lib.hid ht2
  have HTS := Lib.hid hts
  clear ht2 he2 hts
  go_loopw [3] (fun r wr => ∃ k : Nat, k ≤ t2.size ∧ r = .int .i64 (Ip.mfold 0 (ds.take k)) ∧ wr.heap[w1.heap.size]? = some (.stringIter t2 k) ∧ Below w.heap.size w wr) (fun _ wr => t2.size - wr.iterPos w1.heap.size)
  case atStart =>
    refine ⟨0, Nat.zero_le _, rfl, ?_, hb1.alloc hb1.size _⟩
    have := World.iter_heap w1 t2 0
    simpa using this
  case round =>
    obtain ⟨k, hk, rfl, hit, hbw⟩ := hrel
    have hm97 := Ip.mfold_lt (ds.take k)
    by_cases hlt : k < t2.size
    · have hx := txt_at ds t2 HT2.out HLT.out k hlt
      have hd9 := Ip.getD_lt ds HLT.out k
      have hst := Ip.mfold_take ds k (by rw [← HTS.out]; exact hlt)
      obtain ⟨d, hd⟩ : ∃ d, d = ds.getD k 0 := ⟨_, rfl⟩
      rw [← hd] at hx hd9 hst
      have hnx : ∀ ty, (Instr.next (.pointer (some ⟨w1.heap.size, 0, none⟩)) true ty).run Tryd.prog wr = _ := fun ty => Lib.run_next_ascii_at wr w1.heap.size t2 k ty hit hlt (by rw [hx]; omega)
      have hit2 := Lib.iterAt_heap wr w1.heap.size t2 k (k + 1) hit
      have hbw2 := Lib.below_iterAt hbw (k := w1.heap.size) hb1.size t2 (k + 1)
      have HM := Lib.hid hst
      have HIT := Lib.hid hit
      have HIT2 := Lib.hid hit2
      have HB2 := Lib.hid hbw2
      clear hd hst hit hit2 hbw2
      go_wp2_with fail
      go_roundw
      case rel => exact ⟨k + 1, by omega, by rw [HM.out]; go_num, HIT2.out, HB2.out⟩
      case measure =>
        have h1 := HIT.out
        have h2 := HIT2.out
        simp only [World.iterPos, h1, h2]
        omega
    · have hnx : ∀ ty, (Instr.next (.pointer (some ⟨w1.heap.size, 0, none⟩)) true ty).run Tryd.prog wr = _ := fun ty => Lib.run_next_end_at wr w1.heap.size t2 k ty hit hlt
      have he : ds.take k = ds := List.take_of_length_le (by rw [← HTS.out]; omega)
      rw [he] at hm97
      rw [he]
      clear he hit
      obtain ⟨r, hr⟩ : ∃ r, r = Ip.mfold 0 ds := ⟨_, rfl⟩
      rw [← hr] at hm97
      rw [← hr]
      have HR := Lib.hid hr
      clear hr
      go_wp2_with fail
      have hv : ∃ v : Nat, v = 98 - r ∧ 2 ≤ v ∧ v ≤ 98 := ⟨98 - r, rfl, by omega, by omega⟩
      obtain ⟨v, hve, hv1, hv2⟩ := hv
      rw [show (98 : Int) - (r : Int) = (v : Int) by omega]
      have HV : Hid (v = 98 - Ip.mfold 0 (Ip.digs s.data.toList ++ [0, 0])) := by show _ = _; rw [hve, HR.out, HDS.out]
      clear hve
      refine (Tryd.strconv_Itoa_small v (by omega) _).mono ?_
      rintro e w2 ⟨rfl, hw2⟩
      rw [hw2]
      clear hw2
      by_cases h10 : v < 10
      · rw [Ip.dec_one v h10]
        obtain ⟨n, hn⟩ : ∃ n : ByteArray, n = ⟨(Ip.txt [v]).toArray⟩ := ⟨_, rfl⟩
        rw [← hn]
        have hns : n.size ≤ 1 := by rw [hn, size_of_list, Ip.txt_len]; simp
        have E := Lib.hid (Ip.mtxt_small _ v n HV.out h10 hn)
        clear hn
        go_wp2_with fail
        go_ret
        exact ⟨by rw [← E.out]; rfl, hbw⟩
      · rw [Ip.dec_two v (by omega) (by omega)]
        obtain ⟨n, hn⟩ : ∃ n : ByteArray, n = ⟨(Ip.txt [v / 10, v % 10]).toArray⟩ := ⟨_, rfl⟩
        rw [← hn]
        have hns : 2 ≤ n.size := by rw [hn, size_of_list, Ip.txt_len]; simp
        have E : Hid (n = ⟨(Ip.mtxt (Ip.digs s.data.toList)).toArray⟩) := by show _ = _; rw [hn]; unfold Ip.mtxt; rw [← HV.out]
        clear hn
        go_wp2_with fail
        go_ret
        exact ⟨by rw [← E.out]; rfl, hbw⟩
end Go.Proofs.YtiibgimanfkhdaaDoor
