/- THE CONTRACT of girolaw05.IdentMakeISIN: it returns true. -/
import Derived.Test.YtiibgimanfkhdaaDoorKnown
namespace Go.Proofs.YtiibgimanfkhdaaDoor
open Go.RowKit
set_option linter.unusedVariables false

theorem app_left (a b : ByteArray) (i : Nat) (h : i < a.size) (h' : i < (a ++ b).size) : (a ++ b)[i] = a[i] := by
  exact ByteArray.getElem_append_left h
theorem app_right (a b : ByteArray) (i : Nat) (h : a.size ≤ i) (h' : i < (a ++ b).size) : (a ++ b)[i] = b[i - a.size]'(by rw [ByteArray.size_append] at h'; omega) := by
  exact ByteArray.getElem_append_right h
theorem all_app (P : UInt8 → Prop) (a b : ByteArray) (ha : ∀ (i : Nat) (hi : i < a.size), P (a[i]'hi)) (hb : ∀ (i : Nat) (hi : i < b.size), P (b[i]'hi)) : ∀ (i : Nat) (hi : i < (a ++ b).size), P ((a ++ b)[i]'hi) := by
  intro i hi
  by_cases h : i < a.size
  · rw [app_left a b i h hi]; exact ha i h
  · rw [app_right a b i (by omega) hi]; exact hb _ _
theorem zeros_all (m : Nat) : ∀ (i : Nat) (hi : i < (zeros m).size), Ip.isA ((zeros m)[i]'hi).toNat = true := by
  intro i hi
  have hm : ∀ (m : Nat), ∀ x ∈ Lib.repeatL [48] m, x = 48 := by
    intro m
    induction m with
    | zero => intro x hx; simp [Lib.repeatL] at hx
    | succ m ih =>
      intro x hx
      rw [Lib.repeatL] at hx
      rcases List.mem_append.1 hx with h | h
      · simpa using h
      · exact ih x h
  have : (zeros m)[i] = 48 := hm m _ (by
    show (zeros m)[i] ∈ _
    have h2 : (zeros m)[i] ∈ (zeros m).data.toList := by
      show (zeros m).data[i] ∈ _
      simp
    simpa [zeros] using h2)
  rw [this]; decide
theorem flat0_lo : ∀ i, i < 2 → (flat sp0).getD i 0 = 9 := by decide
theorem flat0_mid : ∀ i, i < 11 → 2 ≤ i → (flat sp0).getD i 0 = 10 := by decide
theorem flat0_hi : (flat sp0).getD 11 0 = 18 := by decide
theorem body_of (c z n : ByteArray) (hc : c.size = 2) (hL : ∀ (i : Nat) (hi : i < c.size), Ip.isL (c[i]'hi).toNat = true) (hz : ∀ (i : Nat) (hi : i < z.size), Ip.isA (z[i]'hi).toNat = true) (hA : ∀ (i : Nat) (hi : i < n.size), Ip.isA (n[i]'hi).toNat = true) : Body (c ++ (z ++ n)) := by
  intro i hi
  refine ⟨fun h2 => ?_, ?_⟩
  · rw [app_left c _ i (by omega) hi]; exact hL i _
  · exact all_app (fun x => Ip.isA x.toNat = true) c (z ++ n) (fun i hi => Ip.isA_of_L (hL i hi)) (all_app (fun x => Ip.isA x.toNat = true) z n hz hA) i hi
theorem fits_isin (s : ByteArray) (hs : s.size = 11) (h : Body s) (d : Nat) (hd : d < 10) : Fits (flat sp0) (s ++ ⟨#[UInt8.ofNat (48 + d)]⟩) := by
  intro i hi hl
  by_cases h11 : i < s.size
  · rw [app_left s _ i h11 hi]
    by_cases h2 : i < 2
    · rw [flat0_lo i h2]; exact (h i h11).1 h2
    · rw [flat0_mid i (by omega) (by omega)]; exact (h i h11).2
  · have hi2 : i < s.size + 1 := by rw [ByteArray.size_append] at hi; exact hi
    have he : i = 11 := by omega
    subst he
    rw [app_right s _ 11 (by omega) hi, flat0_hi]
    simp only [hs]
    show Ip.isC 18 (UInt8.ofNat (48 + d)).toNat = true
    have e : (UInt8.ofNat (48 + d)).toNat = 48 + d := by rw [UInt8.toNat_ofNat']; omega
    rw [e]
    show Ip.isD (48 + d) = true
    rw [Ip.isD_iff]; omega

/-- MakeISIN and the reference agree, and Valid says what the error number says. -/
def Agree (c n : ByteArray) : Prop := ∃ (r : ByteArray) (e : Int),
  (∀ W, Calls Tryd.prog 4 #[.string c, .string n] W fun x w' => x = .returned (.tuple #[.string r, .int .i64 e]) ∧ Below W.heap.size W w') ∧
  (∀ W, Calls Tryd.prog 5 #[.string c, .string n] W fun x w' => x = .returned (.tuple #[.string r, .int .i64 e]) ∧ Below W.heap.size W w') ∧
  (∀ (W : World) (b0 o0 c0 b1 o1 c1 b3 o3 c3 : Nat), Tab W b0 o0 c0 b1 o1 c1 b3 o3 c3 → Calls Tryd.prog 7 #[.int .i64 0, .string r] W fun x w' => x = .returned (.bool (e == 0)) ∧ Below W.heap.size W w')
theorem agree_bad (c n : ByteArray) (e : Int) (he : (e == 0) = false)
    (h1 : ∀ W, Calls Tryd.prog 4 #[.string c, .string n] W fun x w' => x = .returned (.tuple #[.string ⟨#[]⟩, .int .i64 e]) ∧ W = w')
    (h2 : ∀ W, Calls Tryd.prog 5 #[.string c, .string n] W fun x w' => x = .returned (.tuple #[.string ⟨#[]⟩, .int .i64 e]) ∧ W = w') : Agree c n :=
  ⟨⟨#[]⟩, e, fun W => (h1 W).mono fun _ _ h => ⟨h.1, by rw [← h.2]; exact Below.refl _ _⟩, fun W => (h2 W).mono fun _ _ h => ⟨h.1, by rw [← h.2]; exact Below.refl _ _⟩,
    fun W b0 o0 c0 b1 o1 c1 b3 o3 c3 T => valid_of 0 ⟨#[]⟩ 0 4 _ (by rw [he]; rfl) W (check_none ⟨#[]⟩ rfl W b0 o0 c0 b1 o1 c1 b3 o3 c3 T)⟩
theorem agree_good (c n : ByteArray) (hc : c.size = 2) (hL : ∀ (i : Nat) (hi : i < c.size), Ip.isL (c[i]'hi).toNat = true) (hn : 0 < n.size) (hA : ∀ (i : Nat) (hi : i < n.size), Ip.isA (n[i]'hi).toNat = true) (h9 : n.size ≤ 9) : Agree c n := by
  obtain ⟨z, hz⟩ : ∃ z, z = zeros (9 - n.size) := ⟨_, rfl⟩
  have hzs : z.size = 9 - n.size := by rw [hz, zeros_size]
  have hB : Body (c ++ (z ++ n)) := body_of c z n hc hL (by rw [hz]; exact zeros_all _) hA
  have hbs : (c ++ (z ++ n)).size = 11 := by rw [ByteArray.size_append, ByteArray.size_append]; omega
  obtain ⟨d, hd⟩ : ∃ d, d = Ip.luhn (Ip.digs (c ++ (z ++ n)).data.toList) := ⟨_, rfl⟩
  have hd9 : d < 10 := by rw [hd]; exact Ip.luhn_lt _
  have hlu : ∀ W, Calls Tryd.prog 12 #[.string (c ++ (z ++ n))] W fun e w' => e = .returned (.string ⟨#[UInt8.ofNat (48 + d)]⟩) ∧ Below W.heap.size W w' := by
    intro W
    have := luhn_any (c ++ (z ++ n)) (by omega) (fun i hi => (hB i hi).2) W
    rw [← hd] at this
    exact this
  refine ⟨c ++ (z ++ n) ++ ⟨#[UInt8.ofNat (48 + d)]⟩, 0, fun W => ?_, fun W => ?_, fun W b0 o0 c0 b1 o1 c1 b3 o3 c3 T => ?_⟩
  · have := make_6 c n z ⟨#[UInt8.ofNat (48 + d)]⟩ hc hL hn hA h9 hz (by rw [ByteArray.append_assoc]; exact hlu) rfl W
    rw [ByteArray.append_assoc (a := c)] at this
    exact this
  · have := rmake_6 c n d hc hL hn hA h9 (by
      rw [← hz]; intro W
      have := risin_ok (c ++ (z ++ n)) hbs hB W
      rw [← hd] at this
      exact this) hd9 W
    rw [← hz] at this
    exact this
  · refine valid_of 0 _ 0 0 _ rfl W ?_
    refine check_isin true _ ⟨#[UInt8.ofNat (48 + d)]⟩ ⟨#[UInt8.ofNat (48 + d)]⟩ ?_ W b0 o0 c0 b1 o1 c1 b3 o3 c3 T (fits_isin _ hbs hB d hd9) ?_ ?_ (by simp)
    · rw [ByteArray.size_append, hbs]; rfl
    · have : (c ++ (z ++ n) ++ (⟨#[UInt8.ofNat (48 + d)]⟩ : ByteArray)).extract 0 11 = c ++ (z ++ n) := by
        rw [← hbs]
        exact ByteArray.extract_append_eq_left rfl
      rw [this]; exact hlu
    · rw [← hbs]
      exact ByteArray.extract_append_eq_right rfl ByteArray.size_append
theorem agree_all (c n : ByteArray) (hn : n.size ≤ 100) : Agree c n := by
  by_cases hc : c.size = 2
  · by_cases hL : ∀ (i : Nat) (hi : i < c.size), Ip.isL (c[i]'hi).toNat = true
    · by_cases hA : ∀ (i : Nat) (hi : i < n.size), Ip.isA (n[i]'hi).toNat = true
      · by_cases h0 : n.size = 0
        · exact agree_bad c n 4 rfl (make_4 c n hc hL h0) (rmake_4 c n hc hL h0)
        · by_cases h9 : n.size ≤ 9
          · exact agree_good c n hc hL (by omega) hA h9
          · exact agree_bad c n 5 rfl (make_5 c n hc hL (by omega) hA (by omega)) (rmake_5 c n hc hL (by omega) hA (by omega))
      · obtain ⟨j, hA⟩ := Classical.not_forall.1 hA
        obtain ⟨hj, hA⟩ := Classical.not_forall.1 hA
        have hA := Bool.eq_false_iff.2 hA
        exact agree_bad c n 3 rfl (make_3 c n hc hL (by omega) j hj hA) (rmake_3 c n hc hL (by omega) j hj hA)
    · rcases h0 : Ip.isL (c[0]'(by omega)).toNat with _ | _
      · exact agree_bad c n 3 rfl (make_2 c n hc 0 (by omega) h0) (rmake_2a c n hc h0)
      · rcases h1 : Ip.isL (c[1]'(by omega)).toNat with _ | _
        · exact agree_bad c n 3 rfl (make_2 c n hc 1 (by omega) h1) (rmake_2b c n hc h0 h1)
        · exact absurd (fun i hi => by
            have : i = 0 ∨ i = 1 := by omega
            rcases this with rfl | rfl
            · exact h0
            · exact h1) hL
  · exact agree_bad c n 3 rfl (make_1 c n hc) (rmake_1 c n hc)

set_option maxHeartbeats 1000000 in
theorem law_true (c n : ByteArray) (w : World) (b0 o0 c0 b1 o1 c1 b3 o3 c3 : Nat) (T : Tab w b0 o0 c0 b1 o1 c1 b3 o3 c3) : Calls Tryd.prog 3 #[.string c, .string n] w fun e w' => e = .returned (.bool true) ∧ Below w.heap.size w w' := by
  go_enter Tryd.func3, Tryd.ntmps3
  go_wp2_with fail
  go_region
  have hsz : (n.extract 0 (min (n.size : Int) 100).toNat).size ≤ 100 := by rw [ByteArray.size_extract]; omega
  generalize n.extract 0 (min (n.size : Int) 100).toNat = n' at *
  generalize c.extract 0 (min (c.size : Int) 100).toNat = c' at *
  obtain ⟨r, e, H1, H2, H3⟩ := agree_all c' n' hsz
  obtain ⟨b, hb⟩ : ∃ b, b = (e == 0) := ⟨_, rfl⟩
  rw [← hb] at H3
  have HB := Lib.hid hb
  have G1 := Lib.hid H1
  have G2 := Lib.hid H2
  have G3 := Lib.hid H3
  clear hb H1 H2 H3
  have T0 := T.below (Below.refl w.heap.size w).drew
  have hB0 : Below w.heap.size w w.drew := (Below.refl w.heap.size w).drew
  go_wp2_with fail
  refine (G1.out _).mono ?_; rintro x w1 ⟨rfl, hb1⟩
  have hB1 := hB0.trans (hb1.mono hB0.size)
  go_wp2_with fail
  refine (G2.out _).mono ?_; rintro x w2 ⟨rfl, hb2⟩
  have hB2 := hB1.trans (hb2.mono hB1.size)
  go_wp2_with fail
  have T2 := T.below hB2
  refine (known_true _ b0 o0 c0 b1 o1 c1 b3 o3 c3 T2).mono ?_; rintro x w3 ⟨rfl, hb3⟩
  have hB3 := hB2.trans (hb3.mono hB2.size)
  go_wp2_with fail
  have T3 := T.below hB3
  refine (G3.out _ b0 o0 c0 b1 o1 c1 b3 o3 c3 T3).mono ?_; rintro x w4 ⟨rfl, hb4⟩
  have hB4 := hB3.trans (hb4.mono hB3.size)
  go_wp2_with fail
  go_ret
  exact ⟨congrArg (fun x => Ending.returned (.bool x)) (show (b == (e == 0)) = true by rw [HB.out]; simp), hB4⟩
end Go.Proofs.YtiibgimanfkhdaaDoor
