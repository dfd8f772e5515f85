/- THE CONTRACTS of ident.Check at the kinds and strings that IdentMakeISIN comes to, over the table ident.kinds as it is laid. -/
import Derived.Test.YtiibgimanfkhdaaDoorPrefix
import Derived.Deep.RegionHeld3
import Derived.Deep.DeepCutAuto
namespace Go.Proofs.YtiibgimanfkhdaaDoor
open Go.RowKit
set_option linter.unusedVariables false

def sp0 : List (Nat × Nat) := [(2, 9), (9, 10), (1, 18)]
def sp1 : List (Nat × Nat) := [(1, 9), (7, 10)]
def sp3 : List (Nat × Nat) := [(18, 10), (2, 18)]
/-- What the table ident.kinds holds, cell by cell (kinds 0, 1 and 3). -/
structure Tab (w : World) (b0 o0 c0 b1 o1 c1 b3 o3 c3 : Nat) : Prop where
  z : 0 < w.heap.size
  k00 : w.cell? ⟨0, 0, none⟩ = some (.int .i64 12)
  k01 : w.cell? ⟨0, 1, none⟩ = some (.slice (some ⟨b0, o0, none⟩) 3 c0)
  k02 : w.cell? ⟨0, 2, none⟩ = some (.int .i64 11)
  k03 : w.cell? ⟨0, 3, none⟩ = some (.func (.func 12) #[] #[])
  k10 : w.cell? ⟨0, 4, none⟩ = some (.int .i64 4)
  k11 : w.cell? ⟨0, 5, none⟩ = some (.slice (some ⟨b1, o1, none⟩) 2 c1)
  k12 : w.cell? ⟨0, 6, none⟩ = some (.int .i64 0)
  k13 : w.cell? ⟨0, 7, none⟩ = some .nilFunc
  k30 : w.cell? ⟨0, 12, none⟩ = some (.int .i64 20)
  k31 : w.cell? ⟨0, 13, none⟩ = some (.slice (some ⟨b3, o3, none⟩) 2 c3)
  k32 : w.cell? ⟨0, 14, none⟩ = some (.int .i64 18)
  k33 : w.cell? ⟨0, 15, none⟩ = some (.func (.func 73) #[] #[])
  l0 : b0 < w.heap.size
  l1 : b1 < w.heap.size
  l3 : b3 < w.heap.size
  s0 : ∀ i, i < sp0.length → w.cell? ⟨b0, o0 + i * 2, none⟩ = some (.int .i64 ((sp0.getD i (0, 0)).1 : Int))
  t0 : ∀ i, i < sp0.length → w.cell? ⟨b0, o0 + i * 2 + 1, none⟩ = some (fnv (sp0.getD i (0, 0)).2)
  s1 : ∀ i, i < sp1.length → w.cell? ⟨b1, o1 + i * 2, none⟩ = some (.int .i64 ((sp1.getD i (0, 0)).1 : Int))
  t1 : ∀ i, i < sp1.length → w.cell? ⟨b1, o1 + i * 2 + 1, none⟩ = some (fnv (sp1.getD i (0, 0)).2)
  s3 : ∀ i, i < sp3.length → w.cell? ⟨b3, o3 + i * 2, none⟩ = some (.int .i64 ((sp3.getD i (0, 0)).1 : Int))
  t3 : ∀ i, i < sp3.length → w.cell? ⟨b3, o3 + i * 2 + 1, none⟩ = some (fnv (sp3.getD i (0, 0)).2)
theorem Tab.below {w w' : World} {b0 o0 c0 b1 o1 c1 b3 o3 c3 : Nat} (T : Tab w b0 o0 c0 b1 o1 c1 b3 o3 c3) (h : Below w.heap.size w w') : Tab w' b0 o0 c0 b1 o1 c1 b3 o3 c3 := by
  have e0 : ∀ j, w'.cell? ⟨0, j, none⟩ = w.cell? ⟨0, j, none⟩ := fun j => h.cell (p := ⟨0, j, none⟩) T.z
  have hs := h.size
  exact ⟨Nat.lt_of_lt_of_le T.z hs, (e0 _).trans T.k00, (e0 _).trans T.k01, (e0 _).trans T.k02, (e0 _).trans T.k03, (e0 _).trans T.k10, (e0 _).trans T.k11, (e0 _).trans T.k12, (e0 _).trans T.k13,
    (e0 _).trans T.k30, (e0 _).trans T.k31, (e0 _).trans T.k32, (e0 _).trans T.k33, Nat.lt_of_lt_of_le T.l0 hs, Nat.lt_of_lt_of_le T.l1 hs, Nat.lt_of_lt_of_le T.l3 hs,
    fun i hi => (h.cell (p := ⟨b0, o0 + i * 2, none⟩) T.l0).trans (T.s0 i hi), fun i hi => (h.cell (p := ⟨b0, o0 + i * 2 + 1, none⟩) T.l0).trans (T.t0 i hi),
    fun i hi => (h.cell (p := ⟨b1, o1 + i * 2, none⟩) T.l1).trans (T.s1 i hi), fun i hi => (h.cell (p := ⟨b1, o1 + i * 2 + 1, none⟩) T.l1).trans (T.t1 i hi),
    fun i hi => (h.cell (p := ⟨b3, o3 + i * 2, none⟩) T.l3).trans (T.s3 i hi), fun i hi => (h.cell (p := ⟨b3, o3 + i * 2 + 1, none⟩) T.l3).trans (T.t3 i hi)⟩

/-- A slice of classes, as classes leaves it. -/
def ClsAt (B : Nat) (l : List Nat) (v : Value) (w : World) : Prop := ∃ g cap, v = .slice (some ⟨g, 0, none⟩) l.length cap ∧ l.length ≤ cap ∧ B ≤ g ∧ ∀ i, i < l.length → w.cell? ⟨g, 0 + i, none⟩ = some (fnv (l.getD i 0))
theorem clsAt_of {w : World} {B : Nat} {l : List Nat} {v : Value} (hne : 0 < l.length) (h : w.ownsRow B 40 1 v l.length (l.map fnv)) : ClsAt B l v w := by
  obtain ⟨h1, ⟨_, h2⟩ | ⟨g, cap, cur, rfl, hB, hb, hn, hm, hcs, ht⟩⟩ := h
  · omega
  · refine ⟨g, cap, rfl, hn, hB, fun i hi => ?_⟩
    have e1 : cur.toList.take (l.length * 1) = l.map fnv := ht
    have : (l.map fnv)[i]? = some (fnv (l.getD i 0)) := by
      rw [List.getElem?_map, List.getElem?_eq_getElem hi, List.getD_eq_getElem?_getD, List.getElem?_eq_getElem hi]; rfl
    rw [← e1, List.getElem?_take_of_lt (by omega)] at this
    simp only [World.cell?, hb, Nat.zero_add]
    simpa using this
/-- classes at kind 0, 1, 3. -/
theorem cls_kind (sp : List (Nat × Nat)) (hn : sp.length ≤ 8) (hc : ∀ p ∈ sp, p.1 ≤ 100) (hpos : 0 < (flat sp).length) (sh body : Int) (chk : Value) (b o c : Nat) (w : World) (hb : b < w.heap.size)
    (h0 : ∀ i, i < sp.length → w.cell? ⟨b, o + i * 2, none⟩ = some (.int .i64 ((sp.getD i (0, 0)).1 : Int))) (h1 : ∀ i, i < sp.length → w.cell? ⟨b, o + i * 2 + 1, none⟩ = some (fnv (sp.getD i (0, 0)).2)) :
    Calls Tryd.prog 30 #[.agg #[.int .i64 sh, .slice (some ⟨b, o, none⟩) sp.length c, .int .i64 body, chk]] w fun e w' => ∃ v, e = .returned v ∧ ClsAt w.heap.size (flat sp) v w' ∧ Below w.heap.size w w' :=
  (classes_any sp hn hc sh body chk b o c w hb h0 h1).mono fun _ _ ⟨v, h1, h2, h3⟩ => ⟨v, h1, clsAt_of hpos h2, h3⟩

/-- A row of classes. -/
def Row (l : List Nat) (g : Nat) (w : World) : Prop := ∀ i, i < l.length → w.cell? ⟨g, 0 + i, none⟩ = some (fnv (l.getD i 0))
theorem cls0 {b0 o0 c0 b1 o1 c1 b3 o3 c3 : Nat} (w : World) (T : Tab w b0 o0 c0 b1 o1 c1 b3 o3 c3) :
    Calls Tryd.prog 30 #[.agg #[.int .i64 12, .slice (some ⟨b0, o0, none⟩) 3 c0, .int .i64 11, .func (.func 12) #[] #[]]] w fun e w' => ∃ g cap, e = .returned (.slice (some ⟨g, 0, none⟩) 12 cap) ∧ 12 ≤ cap ∧ Row (flat sp0) g w' ∧ Below w.heap.size w w' :=
  (cls_kind sp0 (by decide) (by decide) (by decide) 12 11 (.func (.func 12) #[] #[]) b0 o0 c0 w T.l0 T.s0 T.t0).mono fun _ _ ⟨_, h1, ⟨g, cap, h2, h3, _, h4⟩, h5⟩ => ⟨g, cap, h1.trans (by rw [h2]; rfl), h3, h4, h5⟩
theorem cls1 {b0 o0 c0 b1 o1 c1 b3 o3 c3 : Nat} (w : World) (T : Tab w b0 o0 c0 b1 o1 c1 b3 o3 c3) :
    Calls Tryd.prog 30 #[.agg #[.int .i64 4, .slice (some ⟨b1, o1, none⟩) 2 c1, .int .i64 0, .nilFunc]] w fun e w' => ∃ g cap, e = .returned (.slice (some ⟨g, 0, none⟩) 8 cap) ∧ 8 ≤ cap ∧ Row (flat sp1) g w' ∧ Below w.heap.size w w' :=
  (cls_kind sp1 (by decide) (by decide) (by decide) 4 0 (.nilFunc) b1 o1 c1 w T.l1 T.s1 T.t1).mono fun _ _ ⟨_, h1, ⟨g, cap, h2, h3, _, h4⟩, h5⟩ => ⟨g, cap, h1.trans (by rw [h2]; rfl), h3, h4, h5⟩
theorem cls3 {b0 o0 c0 b1 o1 c1 b3 o3 c3 : Nat} (w : World) (T : Tab w b0 o0 c0 b1 o1 c1 b3 o3 c3) :
    Calls Tryd.prog 30 #[.agg #[.int .i64 20, .slice (some ⟨b3, o3, none⟩) 2 c3, .int .i64 18, .func (.func 73) #[] #[]]] w fun e w' => ∃ g cap, e = .returned (.slice (some ⟨g, 0, none⟩) 20 cap) ∧ 20 ≤ cap ∧ Row (flat sp3) g w' ∧ Below w.heap.size w w' :=
  (cls_kind sp3 (by decide) (by decide) (by decide) 20 18 (.func (.func 73) #[] #[]) b3 o3 c3 w T.l3 T.s3 T.t3).mono fun _ _ ⟨_, h1, ⟨g, cap, h2, h3, _, h4⟩, h5⟩ => ⟨g, cap, h1.trans (by rw [h2]; rfl), h3, h4, h5⟩
/-- All characters that stand at a class belong to it. -/
def Fits (l : List Nat) (s : ByteArray) : Prop := ∀ (i : Nat) (hi : i < s.size), i < l.length → Ip.isC (l.getD i 0) (s[i]'hi).toNat = true
theorem pre0 (g cap : Nat) (s : ByteArray) (w : World) (hr : Row (flat sp0) g w) (hok : Fits (flat sp0) s) (hs : s.size = 12) :
    Calls Tryd.prog 29 #[.slice (some ⟨g, 0, none⟩) 12 cap, .int .i64 12, .string s] w fun e w' => e = .returned (.tuple #[.int .i64 0, .int .i64 0]) ∧ w = w' :=
  prefix_fits (flat sp0) (by decide) g 0 cap 12 s (by omega) (by decide) w hr hok (by omega) (by show s.size ≤ 12; omega)
theorem pre0e (g cap : Nat) (s : ByteArray) (w : World) (hr : Row (flat sp0) g w) (hs : s.size = 0) :
    Calls Tryd.prog 29 #[.slice (some ⟨g, 0, none⟩) 12 cap, .int .i64 12, .string s] w fun e w' => e = .returned (.tuple #[.int .i64 0, .int .i64 4]) ∧ w = w' := by
  have := prefix_short (flat sp0) (by decide) g 0 cap 12 s (by omega) (by decide) w hr (fun i hi => by omega) (by omega) (by omega)
  rw [hs] at this
  exact this
theorem pre1 (g cap : Nat) (s : ByteArray) (w : World) (hr : Row (flat sp1) g w) (hok : Fits (flat sp1) s) (hs : s.size = 2) :
    Calls Tryd.prog 29 #[.slice (some ⟨g, 0, none⟩) 8 cap, .int .i64 4, .string s] w fun e w' => e = .returned (.tuple #[.int .i64 2, .int .i64 4]) ∧ w = w' := by
  have := prefix_short (flat sp1) (by decide) g 0 cap 4 s (by omega) (by decide) w hr hok (by omega) (by omega)
  rw [hs] at this
  exact this
theorem pre3 (g cap : Nat) (s : ByteArray) (w : World) (hr : Row (flat sp3) g w) (hok : Fits (flat sp3) s) (hs : s.size = 20) :
    Calls Tryd.prog 29 #[.slice (some ⟨g, 0, none⟩) 20 cap, .int .i64 20, .string s] w fun e w' => e = .returned (.tuple #[.int .i64 0, .int .i64 0]) ∧ w = w' :=
  prefix_fits (flat sp3) (by decide) g 0 cap 20 s (by omega) (by decide) w hr hok (by omega) (by show s.size ≤ 20; omega)

/-- The four cells of a kind's copy, in a block of the call's own. -/
theorem box_cells (w : World) (x0 x1 x2 x3 : Value) : (w.alloc (.cells #[x0, x1, x2, x3] 59)).cell? ⟨w.heap.size, 0, none⟩ = some x0 ∧ (w.alloc (.cells #[x0, x1, x2, x3] 59)).cell? ⟨w.heap.size, 1, none⟩ = some x1 ∧
    (w.alloc (.cells #[x0, x1, x2, x3] 59)).cell? ⟨w.heap.size, 2, none⟩ = some x2 ∧ (w.alloc (.cells #[x0, x1, x2, x3] 59)).cell? ⟨w.heap.size, 3, none⟩ = some x3 ∧ w.heap.size < (w.alloc (.cells #[x0, x1, x2, x3] 59)).heap.size := by
  refine ⟨?_, ?_, ?_, ?_, by simp⟩ <;> simp [World.cell?_alloc_new]

theorem neq12 (W : World) : Sem.run Tryd.prog (binOp .neq 33 (.func (.func 12) #[] #[]) .nilFunc) W = .ok (.bool true) W := by rfl
theorem neq73 (W : World) : Sem.run Tryd.prog (binOp .neq 33 (.func (.func 73) #[] #[]) .nilFunc) W = .ok (.bool true) W := by rfl
theorem neqnil (W : World) : Sem.run Tryd.prog (binOp .neq 33 .nilFunc .nilFunc) W = .ok (.bool false) W := by rfl

set_option maxHeartbeats 1000000 in
theorem check_isin (ok : Bool) (s d t : ByteArray) (hs : s.size = 12) (w : World) (b0 o0 c0 b1 o1 c1 b3 o3 c3 : Nat) (T : Tab w b0 o0 c0 b1 o1 c1 b3 o3 c3) (hok : Fits (flat sp0) s)
    (hl : ∀ W, Calls Tryd.prog 12 #[.string (s.extract 0 11)] W fun e w' => e = .returned (.string d) ∧ Below W.heap.size W w') (ht : s.extract 11 s.size = t) (hd : (d.toList == t.toList) = ok) :
    Calls Tryd.prog 16 #[.int .i64 0, .string s] w fun e w' => e = .returned (if ok then .tuple #[.int .i64 0, .int .i64 0] else .tuple #[.int .i64 11, .int .i64 18]) ∧ Below w.heap.size w w' := by
  have k0 := T.k00
  have k1 := T.k01
  have k2 := T.k02
  have k3 := T.k03
  have hz := T.z
  have HS := Lib.hid hs
  have HOK := Lib.hid hok
  have HL := Lib.hid hl
  have HT := Lib.hid ht
  have HD := Lib.hid hd
  clear hs hok hl ht hd
  obtain ⟨q0, q1, q2, q3, hsz⟩ := box_cells w (.int .i64 12) (.slice (some ⟨b0, o0, none⟩) 3 c0) (.int .i64 11) (.func (.func 12) #[] #[])
  have T0 := T.below ((Below.refl w.heap.size w).alloc (Nat.le_refl _) (.cells #[.int .i64 12, .slice (some ⟨b0, o0, none⟩) 3 c0, .int .i64 11, .func (.func 12) #[] #[]] 59))
  have hB0 := ((Below.refl w.heap.size w).alloc (Nat.le_refl _) (.cells #[.int .i64 12, .slice (some ⟨b0, o0, none⟩) 3 c0, .int .i64 11, .func (.func 12) #[] #[]] 59))
  go_enter Tryd.func16, Tryd.ntmps16
  go_wp2_with fail
  generalize w.alloc (.cells #[.int .i64 12, .slice (some ⟨b0, o0, none⟩) 3 c0, .int .i64 11, .func (.func 12) #[] #[]] 59) = W0 at *
  clear k0 k1 k2 k3 T
  go_region_held3 (fun w' => w'.cell? ⟨w.heap.size, 0, none⟩ = some (.int .i64 12) ∧ w'.cell? ⟨w.heap.size, 1, none⟩ = some (.slice (some ⟨b0, o0, none⟩) 3 c0) ∧ w'.cell? ⟨w.heap.size, 2, none⟩ = some (.int .i64 11) ∧ w'.cell? ⟨w.heap.size, 3, none⟩ = some (.func (.func 12) #[] #[])) (go_keep)
    (first
      | (go_at_call 30; refine (cls0 _ (T0.below (Below.refl _ _).drew)).mono ?_; rintro e w1 ⟨g, cap, rfl, hcap, hrow, hb1⟩; have r0 := (hb1.cell (p := ⟨w.heap.size, 0, none⟩) hsz).trans q0; have r1 := (hb1.cell (p := ⟨w.heap.size, 1, none⟩) hsz).trans q1; have r2 := (hb1.cell (p := ⟨w.heap.size, 2, none⟩) hsz).trans q2; have r3 := (hb1.cell (p := ⟨w.heap.size, 3, none⟩) hsz).trans q3)
      | (go_at_call 29; refine (pre0 _ _ _ _ ?_ HOK.out HS.out).mono ?_; exact hrow; rintro e w2 ⟨rfl, rfl⟩))
  go_wp2_with fail
  have hB1 : Below w.heap.size w w1 := hB0.trans ((Below.refl _ W0).drew.trans hb1 |>.mono hB0.size)
  have hsz1 : w.heap.size < w1.heap.size := Nat.lt_of_lt_of_le hsz hb1.size
  have hnf := neq12
  have hge : (11 : Int) ≤ (s.size : Int) := by have := HS.out; omega
  clear hcap
  rcases ok with _ | _
  all_goals
    go_region_held3 (fun w' => w'.cell? ⟨w.heap.size, 2, none⟩ = some (.int .i64 11) ∧ w'.cell? ⟨w.heap.size, 3, none⟩ = some (.func (.func 12) #[] #[])) (go_keep)
      (first
        | (go_at_call 12; rw [HT.out]; refine (HL.out _).mono ?_; rintro e w2 ⟨rfl, hb2⟩; have hd := HD.out; have r4 := (hb2.cell (p := ⟨w.heap.size, 2, none⟩) hsz1).trans r2; have r5 := (hb2.cell (p := ⟨w.heap.size, 3, none⟩) hsz1).trans r3))
  all_goals
    go_wp2_with fail
    go_ret2
    exact ⟨rfl, hB1.trans ((Below.refl _ w1).drew.trans hb2 |>.mono hB1.size)⟩
end Go.Proofs.YtiibgimanfkhdaaDoor
