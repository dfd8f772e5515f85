/- THE CONTRACT of girolaw05.known: the chapter's examples hold. -/
import Derived.Test.YtiibgimanfkhdaaDoorRef3
namespace Go.Proofs.YtiibgimanfkhdaaDoor
open Go.RowKit
set_option linter.unusedVariables false

theorem fits_of (l : List Nat) (s : ByteArray) (h : ∀ i, i < s.size → Ip.isC (l.getD i 0) (s.data.toList.getD i 0).toNat = true) : Fits l s := by
  intro i hi _
  have := h i hi
  rw [List.getD_eq_getElem?_getD (l := s.data.toList), List.getElem?_eq_getElem (l := s.data.toList) (by simpa using hi)] at this
  exact this
theorem allA_lit (s : ByteArray) (h : ∀ i, i < s.size → Ip.isA (s.data.toList.getD i 0).toNat = true) : ∀ (i : Nat) (hi : i < s.size), Ip.isA (s[i]'hi).toNat = true := by
  intro i hi
  have := h i hi
  rw [List.getD_eq_getElem?_getD (l := s.data.toList), List.getElem?_eq_getElem (l := s.data.toList) (by simpa using hi)] at this
  exact this
/-- "US0378331005", "US0378331004", "00000000000000000A", "00000000000000000098", "CB". -/
def lit1 : ByteArray := ⟨#[85, 83, 48, 51, 55, 56, 51, 51, 49, 48, 48, 53]⟩
def lit2 : ByteArray := ⟨#[85, 83, 48, 51, 55, 56, 51, 51, 49, 48, 48, 52]⟩
def lit3 : ByteArray := ⟨#[48, 48, 48, 48, 48, 48, 48, 48, 48, 48, 48, 48, 48, 48, 48, 48, 48, 65]⟩
def lit4 : ByteArray := ⟨#[48, 48, 48, 48, 48, 48, 48, 48, 48, 48, 48, 48, 48, 48, 48, 48, 48, 48, 57, 56]⟩
def lit5 : ByteArray := ⟨#[67, 66]⟩
theorem luhn1 (W : World) : Calls Tryd.prog 12 #[.string (lit1.extract 0 11)] W fun e w' => e = .returned (.string ⟨#[53]⟩) ∧ Below W.heap.size W w' := by
  have h := luhn_any (lit1.extract 0 11) (by decide) (allA_lit _ (by decide)) W
  rw [show (⟨(Ip.txt [Ip.luhn (Ip.digs (lit1.extract 0 11).data.toList)]).toArray⟩ : ByteArray) = ⟨#[53]⟩ by decide] at h
  exact h
theorem luhn2 (W : World) : Calls Tryd.prog 12 #[.string (lit2.extract 0 11)] W fun e w' => e = .returned (.string ⟨#[53]⟩) ∧ Below W.heap.size W w' := luhn1 W
theorem mod3 (W : World) : Calls Tryd.prog 73 #[.string lit3] W fun e w' => e = .returned (.string ⟨#[54, 56]⟩) ∧ Below W.heap.size W w' := by
  have h := mod97_any lit3 (by decide) (allA_lit _ (by decide)) W
  rw [show (⟨(Ip.mtxt (Ip.digs lit3.data.toList)).toArray⟩ : ByteArray) = ⟨#[54, 56]⟩ by decide] at h
  exact h
theorem mod4 (W : World) : Calls Tryd.prog 73 #[.string (lit4.extract 0 18)] W fun e w' => e = .returned (.string ⟨#[57, 56]⟩) ∧ Below W.heap.size W w' := by
  have h := mod97_any (lit4.extract 0 18) (by decide) (allA_lit _ (by decide)) W
  rw [show (⟨(Ip.mtxt (Ip.digs (lit4.extract 0 18).data.toList)).toArray⟩ : ByteArray) = ⟨#[57, 56]⟩ by decide] at h
  exact h
theorem chk1 (w : World) (b0 o0 c0 b1 o1 c1 b3 o3 c3 : Nat) (T : Tab w b0 o0 c0 b1 o1 c1 b3 o3 c3) : Calls Tryd.prog 16 #[.int .i64 0, .string lit1] w fun e w' => e = .returned (.tuple #[.int .i64 0, .int .i64 0]) ∧ Below w.heap.size w w' :=
  check_isin true lit1 ⟨#[53]⟩ ⟨#[53]⟩ rfl w b0 o0 c0 b1 o1 c1 b3 o3 c3 T (fits_of _ _ (by decide)) luhn1 (by decide) (by simp)
theorem chk2 (w : World) (b0 o0 c0 b1 o1 c1 b3 o3 c3 : Nat) (T : Tab w b0 o0 c0 b1 o1 c1 b3 o3 c3) : Calls Tryd.prog 16 #[.int .i64 0, .string lit2] w fun e w' => e = .returned (.tuple #[.int .i64 11, .int .i64 18]) ∧ Below w.heap.size w w' :=
  check_isin false lit2 ⟨#[53]⟩ ⟨#[52]⟩ rfl w b0 o0 c0 b1 o1 c1 b3 o3 c3 T (fits_of _ _ (by decide)) luhn2 (by decide) (by rw [ByteArray.toList_eq, ByteArray.toList_eq]; rfl)
theorem val4 (w : World) (b0 o0 c0 b1 o1 c1 b3 o3 c3 : Nat) (T : Tab w b0 o0 c0 b1 o1 c1 b3 o3 c3) : Calls Tryd.prog 7 #[.int .i64 3, .string lit4] w fun e w' => e = .returned (.bool true) ∧ Below w.heap.size w w' :=
  valid_of 3 lit4 0 0 true rfl w (check_lei lit4 ⟨#[57, 56]⟩ ⟨#[57, 56]⟩ rfl w b0 o0 c0 b1 o1 c1 b3 o3 c3 T (fits_of _ _ (by decide)) mod4 (by decide) (by simp))
theorem val5 (w : World) (b0 o0 c0 b1 o1 c1 b3 o3 c3 : Nat) (T : Tab w b0 o0 c0 b1 o1 c1 b3 o3 c3) : Calls Tryd.prog 7 #[.int .i64 1, .string lit5] w fun e w' => e = .returned (.bool false) ∧ Below w.heap.size w w' :=
  valid_of 1 lit5 2 4 false rfl w (check_member lit5 rfl w b0 o0 c0 b1 o1 c1 b3 o3 c3 T (fits_of _ _ (by decide)))
theorem lei3 (w : World) (b0 o0 c0 b1 o1 c1 b3 o3 c3 : Nat) (T : Tab w b0 o0 c0 b1 o1 c1 b3 o3 c3) : Calls Tryd.prog 17 #[.string lit3] w fun x w' => x = .returned (.tuple #[.string ⟨#[54, 56]⟩, .int .i64 0]) ∧ Below w.heap.size w w' :=
  lei_digits lit3 ⟨#[54, 56]⟩ w b0 o0 c0 b1 o1 c1 b3 o3 c3 T rfl (allA_lit _ (by decide)) mod3
set_option maxHeartbeats 800000 in
theorem known_true (w : World) (b0 o0 c0 b1 o1 c1 b3 o3 c3 : Nat) (T : Tab w b0 o0 c0 b1 o1 c1 b3 o3 c3) : Calls Tryd.prog 6 #[] w fun e w' => e = .returned (.bool true) ∧ Below w.heap.size w w' := by
  go_enter Tryd.func6, Tryd.ntmps6
  go_wp2_with fail
  refine (chk1 _ b0 o0 c0 b1 o1 c1 b3 o3 c3 T).mono ?_; rintro e w1 ⟨rfl, hb1⟩
  have T1 := T.below hb1
  go_wp2_with fail
  refine (chk2 _ b0 o0 c0 b1 o1 c1 b3 o3 c3 T1).mono ?_; rintro e w2 ⟨rfl, hb2⟩
  have T2 := T1.below hb2
  go_wp2_with fail
  refine (lei3 _ b0 o0 c0 b1 o1 c1 b3 o3 c3 T2).mono ?_; rintro e w3 ⟨rfl, hb3⟩
  have T3 := T2.below hb3
  go_wp2_with fail
  refine (val4 _ b0 o0 c0 b1 o1 c1 b3 o3 c3 T3).mono ?_; rintro e w4 ⟨rfl, hb4⟩
  have T4 := T3.below hb4
  go_wp2_with fail
  refine (val5 _ b0 o0 c0 b1 o1 c1 b3 o3 c3 T4).mono ?_; rintro e w5 ⟨rfl, hb5⟩
  go_wp2_with fail
  go_ret
  have g2 := hb1.trans (hb2.mono hb1.size)
  have g3 := g2.trans (hb3.mono g2.size)
  have g4 := g3.trans (hb4.mono g3.size)
  exact ⟨rfl, g4.trans (hb5.mono g4.size)⟩
end Go.Proofs.YtiibgimanfkhdaaDoor
