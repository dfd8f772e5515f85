/- THE CONTRACT of (ident.kind).classes: the class of each position, in a slice of its own. -/
import Derived.Test.YtiibgimanfkhdaaDoorSums
import Derived.Maps.AppendAt
import Derived.Deep.AppendLies
import Derived.Laws.EntriesVeiled
namespace Go.Proofs.YtiibgimanfkhdaaDoor
open Go.RowKit

def fnv (f : Nat) : Value := .func (.func f) #[] #[]
def flat (sp : List (Nat × Nat)) : List Nat := sp.flatMap fun p => List.replicate p.1 p.2
theorem getD_mem (sp : List (Nat × Nat)) (k : Nat) (h : k < sp.length) : sp.getD k (0, 0) ∈ sp := by
  rw [List.getD_eq_getElem?_getD, List.getElem?_eq_getElem h]; exact List.getElem_mem h
theorem flat_take (sp : List (Nat × Nat)) (k : Nat) (h : k < sp.length) : flat (sp.take (k + 1)) = flat (sp.take k) ++ List.replicate (sp.getD k (0, 0)).1 (sp.getD k (0, 0)).2 := by
  rw [List.take_succ_eq_append_getElem h, List.getD_eq_getElem?_getD, List.getElem?_eq_getElem h]
  unfold flat
  rw [List.flatMap_append]
  simp
theorem flat_len (sp : List (Nat × Nat)) (k : Nat) (hc : ∀ p ∈ sp, p.1 ≤ 100) : (flat (sp.take k)).length ≤ 100 * sp.length := by
  induction sp generalizing k with
  | nil => simp [flat]
  | cons p l ih =>
    rcases k with _ | k
    · simp [flat]
    · have h1 := ih k (fun q hq => hc q (List.mem_cons_of_mem _ hq))
      have h2 := hc p (List.mem_cons_self ..)
      have e : flat ((p :: l).take (k + 1)) = List.replicate p.1 p.2 ++ flat (l.take k) := by unfold flat; simp
      rw [e, List.length_append, List.length_replicate, List.length_cons]
      omega
theorem info40 : (Tryd.prog.info? 40).map (fun i => (i.zero, i.size, i.bytes)) = some (some .nilFunc, 1, 8) := by kernel_rfl

theorem cls_step {B b5 f : Nat} {w wr w1 : World} {u v' x : Value} {o : Obj} {L : List Nat} (hB : B ≤ wr.heap.size) (hown : wr.ownsRow B 40 1 u L.length (L.map fnv)) (hb : Below B w wr)
    (hcf : wr.cell? ⟨b5, 1, none⟩ = some x) (hne : u.ownBlock ≠ some b5) (hsz : b5 < wr.heap.size) (hown' : w1.ownsRow B 40 1 v' (L.length + 1) (L.map fnv ++ [.func (.func f) #[] #[]]))
    (hgrow : (wr.alloc o).grownBy w1 u.ownBlock) (hat : v'.ownBlock = u.ownBlock ∨ v'.ownBlock = some (wr.heap.size + 1)) :
    w1.ownsRow B 40 1 v' (L ++ [f]).length ((L ++ [f]).map fnv) ∧ Below B w w1 ∧ w1.cell? ⟨b5, 1, none⟩ = some x ∧ v'.ownBlock ≠ some b5 ∧ b5 < w1.heap.size := by
  refine ⟨by rw [List.length_append, List.map_append]; exact hown', (hb.alloc hB o).grown hgrow (by simp; omega) (fun j hj => (hown.lt j hj).1), ?_, ?_, ?_⟩
  · exact hgrow.cell ((World.cell?_alloc_past _ _ _ hsz).trans hcf) (fun h => hne h.symm)
  · rcases hat with h | h
    · rw [h]; exact hne
    · rw [h]; intro hh; injection hh; omega
  · have := hgrow.size; simp at this; omega

set_option maxHeartbeats 800000 in
theorem classes_any (sp : List (Nat × Nat)) (hn : sp.length ≤ 8) (hc : ∀ p ∈ sp, p.1 ≤ 100) (sh body : Int) (chk : Value) (b o c : Nat) (w : World) (hb : b < w.heap.size)
    (h0 : ∀ i, i < sp.length → w.cell? ⟨b, o + i * 2, none⟩ = some (.int .i64 ((sp.getD i (0, 0)).1 : Int))) (h1 : ∀ i, i < sp.length → w.cell? ⟨b, o + i * 2 + 1, none⟩ = some (fnv (sp.getD i (0, 0)).2)) :
    Calls Tryd.prog 30 #[.agg #[.int .i64 sh, .slice (some ⟨b, o, none⟩) sp.length c, .int .i64 body, chk]] w fun e w' => ∃ v, e = .returned v ∧ w'.ownsRow w.heap.size 40 1 v (flat sp).length ((flat sp).map fnv) ∧ Below w.heap.size w w' := by
  have H0 := Lib.hid h0
  have H1 := Lib.hid h1
  have HC := Lib.hid hc
  clear h0 h1 hc
  obtain ⟨i0, hi, hz0, hz1, hz2⟩ := info_parts info40
  go_enter Tryd.func30, Tryd.ntmps30
  go_wp2_with fail
  go_loopw [9, 3] (fun i v wr => ∃ k : Nat, k ≤ sp.length ∧ i = .int .i64 k ∧ wr.ownsRow w.heap.size 40 1 v (flat (sp.take k)).length ((flat (sp.take k)).map fnv) ∧ Below w.heap.size w wr) (fun i _ _ => sp.length - (intOf i).toNat)
  case atStart => exact ⟨0, Nat.zero_le _, rfl, World.ownsRow_nil _ _ _ _, (Below.refl _ _).alloc (Nat.le_refl _) _⟩
  case round =>
    obtain ⟨k, hk, rfl, hown, hbw⟩ := hrel
    by_cases hlt : k < sp.length
    · have c0 := (hbw.cell (p := ⟨b, o + k * 2, none⟩) hb).trans (H0.out k hlt)
      have c1 := (hbw.cell (p := ⟨b, o + k * 2 + 1, none⟩) hb).trans (H1.out k hlt)
      have hcl := HC.out (sp.getD k (0, 0)) (getD_mem sp k hlt)
      have hst := flat_take sp k hlt
      generalize sp.getD k (0, 0) = p at *
      obtain ⟨n, f⟩ := p
      simp only at c0 c1 hcl
      unfold fnv at c1
      have HST := Lib.hid hst
      have HL := Lib.hid (flat_len sp k HC.out)
      clear hst
      go_wp2_with fail
      obtain ⟨wo, rfl⟩ : ∃ wo : World, wo = wr := ⟨_, rfl⟩
      go_loopw [15, 3] (fun j v wx => ∃ m : Nat, m ≤ n ∧ j = .int .i64 m ∧ wx.ownsRow w.heap.size 40 1 v (flat (sp.take k) ++ List.replicate m f).length ((flat (sp.take k) ++ List.replicate m f).map fnv) ∧ Below w.heap.size w wx ∧ wx.cell? ⟨wo.heap.size, 1, none⟩ = some (.func (.func f) #[] #[]) ∧ v.ownBlock ≠ some wo.heap.size ∧ wo.heap.size < wx.heap.size) (fun j _ _ => n - (intOf j).toNat)
      case atStart =>
        refine ⟨0, Nat.zero_le _, rfl, by rw [List.replicate_zero, List.append_nil]; exact hown.alloc _, hbw.alloc hbw.size _, by simp [World.cell?_alloc_new], ?_, by simp⟩
        intro hh
        have := (hown.lt _ hh).2
        omega
      case round =>
        obtain ⟨m, hm, rfl, hown2, hbw2, hcf, hne, hsz⟩ := hrel
        by_cases hlt2 : m < n
        · have hlen : (flat (sp.take k) ++ List.replicate m f).length ≤ 1000000 := by
            have := HL.out
            rw [List.length_append, List.length_replicate]; omega
          go_wp2_with (at_builtin; refine wpList_append_own_at _ rfl _ _ 62 rfl w.heap.size 40 i0 .nilFunc 1 8 Tryd.underlying62 hi hz0 hz1 hz2 rfl (by decide) _ _ _ (by rfl) (hown2.alloc _) ⟨wr.heap.size, 0, none⟩ 1 1 [.func (.func f) #[] #[]] (by rfl) (by rfl) ?c1 ?c2 ?c3 ?c4 ?c5 ?_)
          case c1 => exact cell_one_new _ _ _
          case c2 => simp [Value.oneCell']
          case c3 => unfold maxLen; omega
          case c4 => omega
          case c5 => have := hbw2.size; simp; omega
          intro v' w1 hown' hgrow _ hat
          have hfin := cls_step (f := f) hbw2.size hown2 hbw2 hcf hne hsz (by simpa using hown') hgrow (by simpa using hat)
          have F1 := Lib.hid hfin
          clear hfin hown' hgrow hat hown2 hcf
          go_wp2_with fail
          go_roundw
          case rel =>
            obtain ⟨g1, g2, g3, g4, g5⟩ := F1.out
            rw [List.append_assoc, ← List.replicate_succ'] at g1
            exact ⟨m + 1, by omega, by go_num, g1, g2, g3, g4, g5⟩
          case measure => simp [intOf]; omega
        · have hmn : m = n := by omega
          subst hmn
          go_wp2_with fail
          go_roundw
          case rel => exact ⟨k + 1, by omega, by go_num, by rw [HST.out]; exact hown2, hbw2⟩
          case measure => simp [intOf]; omega
    · have he : sp.take k = sp := List.take_of_length_le (by omega)
      rw [he] at hown
      clear he
      go_wp2_with fail
      go_ret
      exact ⟨u3, rfl, hown, hbw⟩
end Go.Proofs.YtiibgimanfkhdaaDoor
