/- PLAIN LEAN for the identifiers' law, with no program in sight: classes of characters, the expansion of letters into digits, the two check sums. -/
import Derived.Lib.ItoaNum
namespace Go.Proofs.Ip

/-! ### characters -/
def isL (n : Nat) : Bool := decide (65 ≤ n ∧ n ≤ 90)
def isD (n : Nat) : Bool := decide (48 ≤ n ∧ n ≤ 57)
def isA (n : Nat) : Bool := isL n || isD n
def isR (n : Nat) : Bool := isA n || n == 45
/-- The class that a function stands for, by its number in the translation. -/
def isC (f n : Nat) : Bool := if f = 9 then isL n else if f = 10 then isA n else if f = 18 then isD n else isR n

theorem isL_iff (n : Nat) : isL n = true ↔ 65 ≤ n ∧ n ≤ 90 := by unfold isL; simp
theorem isD_iff (n : Nat) : isD n = true ↔ 48 ≤ n ∧ n ≤ 57 := by unfold isD; simp
theorem isA_iff (n : Nat) : isA n = true ↔ (65 ≤ n ∧ n ≤ 90) ∨ (48 ≤ n ∧ n ≤ 57) := by unfold isA isL isD; simp
theorem isA_of_L {n : Nat} (h : isL n = true) : isA n = true := by rw [isA_iff]; rw [isL_iff] at h; omega
theorem isA_of_D {n : Nat} (h : isD n = true) : isA n = true := by rw [isA_iff]; rw [isD_iff] at h; omega

/-! ### digits -/
/-- The digits of the value of one character. -/
def dig1 (c : UInt8) : List Nat := if isD c.toNat = true then [c.toNat - 48] else [(c.toNat - 55) / 10, (c.toNat - 55) % 10]
def digs (l : List UInt8) : List Nat := l.flatMap dig1
def txt (ds : List Nat) : List UInt8 := ds.map fun d => UInt8.ofNat (48 + d)
/-- All characters are letters or digits. -/
def allA (l : List UInt8) : Prop := ∀ c ∈ l, isA c.toNat = true

theorem digs_append (a b : List UInt8) : digs (a ++ b) = digs a ++ digs b := by unfold digs; rw [List.flatMap_append]
theorem digs_one (c : UInt8) : digs [c] = dig1 c := by unfold digs; simp
theorem txt_append (a b : List Nat) : txt (a ++ b) = txt a ++ txt b := by unfold txt; rw [List.map_append]
theorem dig1_lt (c : UInt8) (h : isA c.toNat = true) : ∀ d ∈ dig1 c, d < 10 := by
  unfold dig1
  rw [isA_iff] at h
  intro d hd
  split at hd
  · rename_i hc; rw [isD_iff] at hc; simp at hd; omega
  · rename_i hc; rw [isD_iff] at hc; simp at hd; omega
theorem digs_lt (l : List UInt8) (h : allA l) : ∀ d ∈ digs l, d < 10 := by
  intro d hd
  unfold digs at hd
  rw [List.mem_flatMap] at hd
  obtain ⟨c, hc, hd⟩ := hd
  exact dig1_lt c (h c hc) d hd
theorem dig1_len (c : UInt8) : (dig1 c).length ≤ 2 := by unfold dig1; split <;> simp
theorem digs_len (l : List UInt8) : (digs l).length ≤ 2 * l.length := by
  induction l with
  | nil => simp [digs]
  | cons c l ih =>
    have := dig1_len c
    have e : digs (c :: l) = dig1 c ++ digs l := by unfold digs; simp
    rw [e, List.length_append, List.length_cons]; omega
theorem txt_len (ds : List Nat) : (txt ds).length = ds.length := by unfold txt; simp
theorem txt_get (ds : List Nat) (i : Nat) (h : i < ds.length) (hd : ds.getD i 0 < 10) : ((txt ds).getD i 0).toNat = 48 + ds.getD i 0 := by
  unfold txt
  rw [List.getD_eq_getElem?_getD, List.getD_eq_getElem?_getD] at *
  rw [List.getElem?_map, List.getElem?_eq_getElem h] at *
  simp at hd ⊢
  omega

/-- A number below 100 in decimal. -/
theorem dec_one (v : Nat) (h : v < 10) : Lib.decDigits v = txt [v] := by
  unfold Lib.decDigits txt; rw [dif_pos h]; simp
theorem dec_two (v : Nat) (h : 10 ≤ v) (h2 : v < 100) : Lib.decDigits v = txt [v / 10, v % 10] := by
  rw [Lib.decDigits, dif_neg (by omega), dec_one _ (by omega)]
  unfold txt; simp
theorem dig1_D (c : UInt8) (h : isD c.toNat = true) : txt (dig1 c) = [c] := by
  unfold dig1 txt
  rw [if_pos h]
  rw [isD_iff] at h
  simp only [List.map_cons, List.map_nil]
  rw [show 48 + (c.toNat - 48) = c.toNat by omega]
  simp
theorem dig1_L (c : UInt8) (h : isA c.toNat = true) (hd : isD c.toNat = false) : txt (dig1 c) = Lib.decDigits (c.toNat - 55) := by
  rw [isA_iff] at h
  have h2 : ¬ (48 ≤ c.toNat ∧ c.toNat ≤ 57) := fun g => by rw [(isD_iff _).2 g] at hd; cases hd
  rw [dec_two _ (by omega) (by omega)]
  unfold dig1
  rw [hd]
  simp

/-! ### the check digit of Luhn -/
def lf (i d : Nat) : Nat := if i % 2 = 0 then 2 * d / 10 + 2 * d % 10 else d / 10 + d % 10
/-- The sum over the last k digits. -/
def lsum (ds : List Nat) : Nat → Nat
  | 0 => 0
  | k + 1 => lsum ds k + lf k (ds.getD (ds.length - 1 - k) 0)
def luhn (ds : List Nat) : Nat := (10 - lsum ds ds.length % 10) % 10
theorem lf_le (i d : Nat) (h : d < 10) : lf i d ≤ 10 := by unfold lf; split <;> omega
theorem getD_lt (ds : List Nat) (h : ∀ d ∈ ds, d < 10) (i : Nat) : ds.getD i 0 < 10 := by
  rw [List.getD_eq_getElem?_getD]
  rcases hi : ds[i]? with _ | d
  · simp
  · simpa using h d (List.mem_of_getElem? hi)
theorem lsum_le (ds : List Nat) (h : ∀ d ∈ ds, d < 10) (k : Nat) : lsum ds k ≤ 10 * k := by
  induction k with
  | zero => simp [lsum]
  | succ k ih => have := lf_le k _ (getD_lt ds h (ds.length - 1 - k)); rw [lsum]; omega
theorem luhn_lt (ds : List Nat) : luhn ds < 10 := by unfold luhn; omega

/-! ### the check digits modulo 97 -/
def mfold (r : Nat) (ds : List Nat) : Nat := ds.foldl (fun r d => (10 * r + d) % 97) r
theorem mfold_snoc (r : Nat) (ds : List Nat) (d : Nat) : mfold r (ds ++ [d]) = (10 * mfold r ds + d) % 97 := by unfold mfold; simp
theorem mfold_lt (ds : List Nat) : mfold 0 ds < 97 := by
  rcases List.eq_nil_or_concat ds with rfl | ⟨l, d, rfl⟩
  · decide
  · rw [List.concat_eq_append, mfold_snoc]; omega
/-- The two check digits. -/
def mtxt (ds : List Nat) : List UInt8 := txt [(98 - mfold 0 (ds ++ [0, 0])) / 10, (98 - mfold 0 (ds ++ [0, 0])) % 10]

/-! ### strings, byte by byte -/
theorem take_snoc (s : ByteArray) (k : Nat) (h : k < s.size) : s.data.toList.take (k + 1) = s.data.toList.take k ++ [s[k]] := by
  rw [List.take_succ_eq_append_getElem (by simpa using h)]; rfl
theorem digs_take (s : ByteArray) (k : Nat) (h : k < s.size) : digs (s.data.toList.take (k + 1)) = digs (s.data.toList.take k) ++ dig1 s[k] := by
  rw [take_snoc s k h, digs_append, digs_one]
theorem allA_of (s : ByteArray) (h : ∀ (i : Nat) (hi : i < s.size), isA (s[i]'hi).toNat = true) : allA s.data.toList := by
  intro c hc
  obtain ⟨i, hi, rfl⟩ := List.getElem_of_mem hc
  exact h i (by simpa using hi)
theorem lsum_even (ds : List Nat) (n k d : Nat) (hn : n = ds.length) (hd : d = ds.getD (n - 1 - k) 0) (h : k % 2 = 0) : (lsum ds (k + 1) : Int) = lsum ds k + ((48 + (d : Int) - 48) * 2 / 10 + (48 + (d : Int) - 48) * 2 % 10) := by
  rw [lsum, ← hn, ← hd]
  unfold lf
  rw [if_pos h]
  omega
theorem lsum_odd (ds : List Nat) (n k d : Nat) (hn : n = ds.length) (hd : d = ds.getD (n - 1 - k) 0) (h : ¬ k % 2 = 0) : (lsum ds (k + 1) : Int) = lsum ds k + ((48 + (d : Int) - 48) / 10 + (48 + (d : Int) - 48) % 10) := by
  rw [lsum, ← hn, ← hd]
  unfold lf
  rw [if_neg h]
  omega
theorem luhn_int (ds : List Nat) (n : Nat) (hn : n = ds.length) : -((lsum ds n : Int) % 10) % 10 = (luhn ds : Int) := by
  unfold luhn
  rw [← hn]
  omega
theorem mfold_take (ds : List Nat) (k : Nat) (h : k < ds.length) : mfold 0 (ds.take (k + 1)) = (10 * mfold 0 (ds.take k) + ds.getD k 0) % 97 := by
  rw [List.take_succ_eq_append_getElem h, mfold_snoc, List.getD_eq_getElem?_getD, List.getElem?_eq_getElem h]; rfl
theorem txt_zeros (ds : List Nat) (t : ByteArray) (ht : t = ⟨(txt ds).toArray⟩) : t ++ (⟨#[48, 48]⟩ : ByteArray) = ⟨(txt (ds ++ [0, 0])).toArray⟩ := by
  subst ht
  rw [txt_append]
  apply ByteArray.ext
  simp [txt]
theorem mtxt_small (ds : List Nat) (v : Nat) (n : ByteArray) (hv : v = 98 - mfold 0 (ds ++ [0, 0])) (h : v < 10) (hn : n = ⟨(txt [v]).toArray⟩) : (⟨#[48]⟩ : ByteArray) ++ n = ⟨(mtxt ds).toArray⟩ := by
  unfold mtxt
  rw [← hv, Nat.div_eq_of_lt h, Nat.mod_eq_of_lt h]
  subst hn
  apply ByteArray.ext
  simp [txt]
end Go.Proofs.Ip
