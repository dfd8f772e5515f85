/- THE CONTRACTS of the reference's Expand, Luhn, may, begins, ISIN. -/
import Derived.Test.YtiibgimanfkhdaaDoorMake
namespace Go.Proofs.YtiibgimanfkhdaaDoor
open Go.RowKit
set_option linter.unusedVariables false

theorem info3 : (Tryd.prog.info? 3).map (fun i => (i.zero, i.size, i.bytes)) = some (some (.int .i64 0), 1, 8) := by kernel_rfl
def ints (ds : List Nat) : List Value := ds.map fun (d : Nat) => .int .i64 (d : Int)
theorem ints_append (a b : List Nat) : ints (a ++ b) = ints a ++ ints b := by unfold ints; rw [List.map_append]
theorem cells2_new (w : World) (x y : Value) (t : TypeId) : ∀ j u, [x, y][j]? = some u → (w.alloc (.cells #[x, y] t)).cell? ((⟨w.heap.size, 0, none⟩ : Addr).add j) = some u := by
  intro j u h
  rcases j with _ | _ | j
  · simp at h; subst h; simp [World.cell?_alloc_new, Addr.add]
  · simp at h; subst h; simp [World.cell?_alloc_new, Addr.add]
  · simp at h
theorem grown_below {B : Nat} {w wr w1 : World} {o : Obj} {u v' : Value} {L M : List Nat} {N : List Value} {m : Nat} (hB : B ≤ wr.heap.size) (hown : wr.ownsRow B 3 1 u L.length (ints L)) (hb : Below B w wr)
    (hown' : w1.ownsRow B 3 1 v' (L.length + m) (ints L ++ N)) (hN : N = ints M) (hm : m = M.length) (hgrow : (wr.alloc o).grownBy w1 u.ownBlock) : w1.ownsRow B 3 1 v' (L ++ M).length (ints (L ++ M)) ∧ Below B w w1 := by
  refine ⟨by rw [List.length_append, ints_append, ← hN, ← hm]; exact hown', (hb.alloc hB o).grown hgrow (by simp; omega) (fun j hj => (hown.lt j hj).1)⟩
set_option maxHeartbeats 800000 in
theorem rexpand_own (s : ByteArray) (hs : s.size ≤ 1000) (h : ∀ (i : Nat) (hi : i < s.size), Ip.isA (s[i]'hi).toNat = true) (w : World) :
    Calls Tryd.prog 40 #[.string s] w fun e w' => ∃ v, e = .returned v ∧ w'.ownsRow w.heap.size 3 1 v (Ip.digs s.data.toList).length (ints (Ip.digs s.data.toList)) ∧ Below w.heap.size w w' := by
  have H := Lib.hid h
  clear h
  obtain ⟨i0, hi, hz0, hz1, hz2⟩ := info_parts info3
  go_enter Tryd.func40, Tryd.ntmps40
  go_wp2_with fail
  go_loopw [4, 3] (fun i v wr => ∃ k : Nat, k ≤ s.size ∧ i = .int .i64 k ∧ wr.ownsRow w.heap.size 3 1 v (Ip.digs (s.data.toList.take k)).length (ints (Ip.digs (s.data.toList.take k))) ∧ Below w.heap.size w wr) (fun i _ _ => s.size - (intOf i).toNat)
  case atStart => exact ⟨0, Nat.zero_le _, rfl, by rw [List.take_zero]; exact World.ownsRow_nil _ _ _ _, Below.refl _ _⟩
  case round =>
    obtain ⟨k, hk, rfl, hown, hb⟩ := hrel
    by_cases hlt : k < s.size
    · have hA := H.out k hlt
      have hsz := hb.size
      have hAi := (Ip.isA_iff _).1 hA
      have hlen := Ip.digs_len (s.data.toList.take k)
      have htk : (s.data.toList.take k).length ≤ k := List.length_take_le _ _
      have HS := Lib.hid (Ip.digs_take s k hlt)
      rcases hD : Ip.isD (s[k]'hlt).toNat with _ | _
      · have hDn : ¬ (48 ≤ (s[k]'hlt).toNat ∧ (s[k]'hlt).toNat ≤ 57) := fun g => by rw [(Ip.isD_iff _).2 g] at hD; cases hD
        have eL := Lib.hid (show Ip.dig1 (s[k]'hlt) = [((s[k]'hlt).toNat - 55) / 10, ((s[k]'hlt).toNat - 55) % 10] by unfold Ip.dig1; rw [hD]; simp)
        obtain ⟨c, hc⟩ : ∃ c, c = (s[k]'hlt).toNat := ⟨_, rfl⟩
        have e1 : ((c : Int) - 65 + 10).tdiv 10 = (((c - 55) / 10 : Nat) : Int) := by rw [Int.tdiv_eq_ediv_of_nonneg (by omega)]; omega
        have e2 : ((c : Int) - 65 + 10).tmod 10 = (((c - 55) % 10 : Nat) : Int) := by rw [Int.tmod_eq_emod_of_nonneg (by omega)]; omega
        rw [hc] at e1 e2
        go_wp2_with (first
          | (go_at_call 14; refine (rdigit_any _ _).mono ?_; rintro e w' ⟨rfl, rfl⟩)
          | (at_builtin; refine wpList_append_own_at _ rfl _ _ 74 rfl w.heap.size 3 i0 (.int .i64 0) 1 8 Tryd.underlying74 hi hz0 hz1 hz2 rfl (by decide) _ _ _ (by rfl) (hown.alloc _) ⟨wr.heap.size, 0, none⟩ 2 2 [.int .i64 (((( s[k]'hlt).toNat - 55 : Nat) : Int) / 10), .int .i64 ((((s[k]'hlt).toNat - 55 : Nat) : Int) % 10)] (by rfl) (by rfl) ?c1 ?c2 ?c3 ?c4 ?c5 ?_))
        case c1 => exact cells2_new _ _ _ _
        case c2 => simp [Value.oneCell']
        case c3 => unfold maxLen; omega
        case c4 => omega
        case c5 => have := hb.size; simp; omega
        intro v' w1 hown' hgrow _ hat
        have hfin := grown_below (M := Ip.dig1 (s[k]'hlt)) hb.size hown hb (by simpa using hown') (by rw [eL.out]; unfold ints; simp) (by rw [eL.out]; rfl) hgrow
        have F1 := Lib.hid hfin
        clear hfin hown' hgrow hat hown
        go_wp2_with fail
        go_roundw
        case rel =>
          obtain ⟨g1, g2⟩ := F1.out
          exact ⟨k + 1, by omega, by go_num, by rw [HS.out]; exact g1, g2⟩
        case measure => simp [intOf]; omega
      · have eD := Lib.hid (show Ip.dig1 (s[k]'hlt) = [(s[k]'hlt).toNat - 48] by unfold Ip.dig1; rw [if_pos hD])
        have hDi := (Ip.isD_iff _).1 hD
        go_wp2_with (first
          | (go_at_call 14; refine (rdigit_any _ _).mono ?_; rintro e w' ⟨rfl, rfl⟩)
          | (at_builtin; refine wpList_append_own_at _ rfl _ _ 74 rfl w.heap.size 3 i0 (.int .i64 0) 1 8 Tryd.underlying74 hi hz0 hz1 hz2 rfl (by decide) _ _ _ (by rfl) (hown.alloc _) ⟨wr.heap.size, 0, none⟩ 1 1 [.int .i64 (((s[k]'hlt).toNat : Int) - 48)] (by rfl) (by rfl) ?c1 ?c2 ?c3 ?c4 ?c5 ?_))
        case c1 => exact cell_one_new _ _ _
        case c2 => simp [Value.oneCell']
        case c3 => unfold maxLen; omega
        case c4 => omega
        case c5 => have := hb.size; simp; omega
        intro v' w1 hown' hgrow _ hat
        have hfin := grown_below (M := Ip.dig1 (s[k]'hlt)) hb.size hown hb (by simpa using hown') (by rw [eD.out]; unfold ints; simp; omega) (by rw [eD.out]; rfl) hgrow
        have F1 := Lib.hid hfin
        clear hfin hown' hgrow hat hown
        go_wp2_with fail
        go_roundw
        case rel =>
          obtain ⟨g1, g2⟩ := F1.out
          exact ⟨k + 1, by omega, by go_num, by rw [HS.out]; exact g1, g2⟩
        case measure => simp [intOf]; omega
    · have e : s.data.toList.take k = s.data.toList := List.take_of_length_le (by simp; omega)
      rw [e] at hown
      clear e
      go_wp2_with fail
      go_ret
      exact ⟨_, rfl, hown, hb⟩
end Go.Proofs.YtiibgimanfkhdaaDoor
