/- FROM THE ROW's CONDITION (the table ident.kinds as it is laid) TO WHAT THE WALKS ASK: Tab. -/
import Derived.Test.YtiibgimanfkhdaaDoorLaw
import Derived.Test.YtiibgimanfkhdaaDoorRows
import Derived.LaidMore
import Derived.OpenShut
import Derived.ChangeSame
import Derived.Lib.SmallJoins
import Derived.Lib.LaidU8
import Derived.Lib.LaidCase
import Derived.Stop.Joined
namespace Go.Proofs.YtiibgimanfkhdaaDoor
open Go.RowKit Go.Joins Go.ChangeShapes Go.WideShapes Go.ChangeAt
set_option linter.unusedVariables false

def laid4 : List (String × DataW Unit) := [("math/bits.deBruijn32tab", Rows.laid_math_bits_deBruijn32tab), ("math/bits.deBruijn64tab", Rows.laid_math_bits_deBruijn64tab), ("internal/strconv.uint64pow10", Rows.laid_internal_strconv_uint64pow10), ("giro/ident.kinds", Rows.laid_giro_ident_kinds)]
theorem gKinds : Tryd.prog.globalNamed "giro/ident.kinds" = some 0 := by kernel_rfl
theorem tKinds : (Tryd.prog.globals[0]?).map (·.type) = some 60 := by kernel_rfl
theorem cells59 : Tryd.prog.cellsOf 59 = 4 := by kernel_rfl
theorem cells77 : Tryd.prog.cellsOf 77 = 2 := by kernel_rfl
theorem cells3 : Tryd.prog.cellsOf 3 = 1 := by kernel_rfl
theorem cells57 : Tryd.prog.cellsOf 57 = 1 := by kernel_rfl
theorem cells33 : Tryd.prog.cellsOf 33 = 1 := by kernel_rfl
theorem cells40 : Tryd.prog.cellsOf 40 = 1 := by kernel_rfl

def nLetter : List UInt8 := [103, 105, 114, 111, 47, 105, 100, 101, 110, 116, 46, 108, 101, 116, 116, 101, 114]
def nAlnum : List UInt8 := [103, 105, 114, 111, 47, 105, 100, 101, 110, 116, 46, 97, 108, 112, 104, 97, 110, 117, 109, 101, 114, 105, 99]
def nDigit : List UInt8 := [103, 105, 114, 111, 47, 105, 100, 101, 110, 116, 46, 100, 105, 103, 105, 116]
def nRef : List UInt8 := [103, 105, 114, 111, 47, 105, 100, 101, 110, 116, 46, 114, 101, 102, 67, 104, 97, 114, 97, 99, 116, 101, 114]
def nLuhn : List UInt8 := [103, 105, 114, 111, 47, 105, 100, 101, 110, 116, 46, 108, 117, 104, 110]
def nMod : List UInt8 := [103, 105, 114, 111, 47, 105, 100, 101, 110, 116, 46, 109, 111, 100, 57, 55]
def spanD (n : Int) (f : List UInt8) : DataW (List UInt8) := .agg [.lit (.int .i64 n), .held f]
def kindD (a : Int) (ds : List (DataW (List UInt8))) (b : Int) (x : DataW (List UInt8)) : DataW (List UInt8) := .agg [.lit (.int .i64 a), .slice ds [], .lit (.int .i64 b), x]

theorem take_one {cs : List Value} {k : Nat} {v : Value} (h : (cs.drop k).take 1 = [v]) : cs[k]? = some v := by
  have := congrArg (·[0]?) h
  simpa [List.getElem?_take, List.getElem?_drop] using this
theorem cells_two {w : World} {base : Nat} {a : Addr} {cs : List Value} (h : w.cells? base a 2 = some cs) : ∃ x y, cs = [x, y] ∧ w.cell? a = some x ∧ w.cell? (a.add 1) = some y := by
  unfold World.cells? at h
  split at h
  · simp [List.range_succ, List.mapM_cons, Addr.add] at h
    rcases h0 : w.cell? a with _ | x
    · simp [h0] at h
    · rcases h1 : w.cell? ⟨a.block, a.off + 1, none⟩ with _ | y
      · simp [h0, h1] at h
      · simp [h0, h1] at h
        exact ⟨x, y, h.symm, rfl, h1⟩
  · simp at h
theorem nil_of_trod {w : World} {base : Nat} {sp : Nat → Bool} {fuel : Nat} {v : Value} {q : List MemPlace} (h : DataW.trod (funcToken Tryd.prog) Tryd.prog w base sp true fuel 33 [v] = some (.nil, q)) : v = .nilFunc := by
  cases fuel with
  | zero => simp [DataW.trod] at h
  | succ n => cases v <;> simp [DataW.trod, Tryd.underlying33] at h ⊢
theorem span_open {w : World} {base : Nat} {sp : Nat → Bool} {fuel : Nat} {cs : List Value} {n : Int} {b : UInt8} {r : List UInt8} {q : List MemPlace} {f0 : FuncId}
    (hone : ((List.range Tryd.prog.funcs.size).filter fun f => (Tryd.prog.funcs[f]?).any (·.name.toUTF8.data.toList == b :: r)) = [f0])
    (h : DataW.trod (funcToken Tryd.prog) Tryd.prog w base sp true fuel 77 cs = some (spanD n (b :: r), q)) : cs[0]? = some (.int .i64 n) ∧ cs[1]? = some (.func (.func f0) #[] #[]) := by
  obtain ⟨y0, y1, m, hx, hl, h0, h1⟩ := trod_struct2 Tryd.underlying77 h
  simp only [spanD, Prod.mk.injEq, DataW.agg.injEq, List.cons.injEq, and_true] at hx
  obtain ⟨⟨e0, e1⟩, _⟩ := hx
  simp only [cells3, cells40] at h0 h1
  obtain ⟨z, hz, hx, _⟩ := DataW.trod_int Tryd.underlying3 h0
  rw [hx] at e0
  cases e0
  obtain ⟨v, hv⟩ : ∃ v, (cs.drop 1).take 1 = [v] := by
    rw [cells77] at hl
    match cs, hl with
    | [a, b], _ => exact ⟨b, rfl⟩
  rw [hv] at h1
  obtain ⟨y1a, y1b⟩ := y1
  simp only at e1
  subst e1
  have := Go.func_of_trod Tryd.underlying40 hone h1
  subst this
  exact ⟨take_one hz, take_one hv⟩
theorem kind_open {w : World} {fuel : Nat} {cs : List Value} {a c : Int} {ds : List (DataW (List UInt8))} {x : DataW (List UInt8)} {q : List MemPlace}
    (h : DataW.trod (funcToken Tryd.prog) Tryd.prog w 0 (fun _ => true) true fuel 59 cs = some (kindD a ds c x, q)) (hds : ds ≠ []) :
    ∃ ad cap v m q', cs[0]? = some (.int .i64 a) ∧ cs[1]? = some (.slice (some ad) ds.length cap) ∧ cs[2]? = some (.int .i64 c) ∧ cs[3]? = some v ∧
      DataW.trod (funcToken Tryd.prog) Tryd.prog w 0 (fun _ => true) true m 33 [v] = some (x, q') ∧
      ∀ i d, ds[i]? = some d → ∃ cs' m q, w.cells? 0 (ad.add (i * 2)) 2 = some cs' ∧ DataW.trod (funcToken Tryd.prog) Tryd.prog w 0 (fun _ => true) true m 77 cs' = some (d, q) := by
  obtain ⟨y0, y1, y2, y3, m, hx, hl, h0, h1, h2, h3⟩ := trod_struct4 Tryd.underlying59 h
  simp only [kindD, Prod.mk.injEq, DataW.agg.injEq, List.cons.injEq, and_true] at hx
  obtain ⟨⟨e0, e1, e2, e3⟩, _⟩ := hx
  simp only [cells3, cells57, cells33] at h0 h1 h2 h3
  obtain ⟨z0, hz0, hx0, _⟩ := DataW.trod_int Tryd.underlying3 h0
  obtain ⟨z2, hz2, hx2, _⟩ := DataW.trod_int Tryd.underlying3 h2
  rw [hx0] at e0
  rw [hx2] at e2
  cases e0
  cases e2
  rcases DataW.trod_slice Tryd.underlying57 h1 with ⟨_, hx⟩ | ⟨ad, len, cap, elems, rest, n, _, hcs, hx, _, _, _, hlen, hel, _⟩
  · rw [hx] at e1; cases e1
  · rw [hx] at e1
    simp only [DataW.slice.injEq] at e1
    obtain ⟨rfl, _⟩ := e1
    obtain ⟨v, hv⟩ : ∃ v, (cs.drop 3).take 1 = [v] := by
      rw [cells59] at hl
      match cs, hl with
      | [a, b, c, d], _ => exact ⟨d, rfl⟩
    rw [hv] at h3
    obtain ⟨y3a, y3b⟩ := y3
    simp only at e3
    subst e3
    refine ⟨ad, cap, v, m, y3b, take_one hz0, ?_, take_one hz2, take_one hv, h3, fun i d hd => ?_⟩
    · rw [List.length_map, hlen]; exact take_one hcs
    · rw [List.getElem?_map] at hd
      rcases hi : elems[i]? with _ | e
      · rw [hi] at hd; cases hd
      · rw [hi] at hd
        have hil : i < len := by
          have := (List.getElem?_eq_some_iff.1 hi).1
          omega
        have hb := hel i hil
        rw [hi, cells77] at hb
        rcases hc : w.cells? 0 (ad.add (i * 2)) 2 with _ | cs'
        · rw [hc] at hb; cases hb
        · rw [hc] at hb
          simp at hd
          exact ⟨cs', n, e.2, rfl, by rw [← hd]; exact hb⟩

def nameOf (f : Nat) : List UInt8 := if f = 9 then nLetter else if f = 10 then nAlnum else nDigit
theorem fn_ok (f : Nat) (hf : f = 9 ∨ f = 10 ∨ f = 18) : ∃ b r, nameOf f = b :: r ∧ ((List.range Tryd.prog.funcs.size).filter fun g => (Tryd.prog.funcs[g]?).any (·.name.toUTF8.data.toList == b :: r)) = [f] := by
  rcases hf with rfl | rfl | rfl
  · exact ⟨_, _, rfl, by kernel_rfl⟩
  · exact ⟨_, _, rfl, by kernel_rfl⟩
  · exact ⟨_, _, rfl, by kernel_rfl⟩
theorem cell_lt {w : World} {a : Addr} {v : Value} (h : w.cell? a = some v) : a.block < w.heap.size := by
  rcases Nat.lt_or_ge a.block w.heap.size with h1 | h1
  · exact h1
  · exfalso
    unfold World.cell? at h
    rw [Array.getElem?_eq_none (by omega)] at h
    split at h <;> simp_all
theorem add_eq (b o n : Nat) : (⟨b, o, none⟩ : Addr).add n = ⟨b, o + n, none⟩ := by
  unfold Addr.add
  split
  · subst_vars; rfl
  · rfl
theorem spans_of {w : World} {ad : Addr} {ds : List (DataW (List UInt8))} (sp : List (Nat × Nat)) (hf : ∀ p ∈ sp, p.2 = 9 ∨ p.2 = 10 ∨ p.2 = 18) (hds : ds = sp.map fun p => spanD (p.1 : Int) (nameOf p.2)) (hpos : 0 < sp.length)
    (h : ∀ i d, ds[i]? = some d → ∃ cs' m q, w.cells? 0 (ad.add (i * 2)) 2 = some cs' ∧ DataW.trod (funcToken Tryd.prog) Tryd.prog w 0 (fun _ => true) true m 77 cs' = some (d, q)) :
    ∃ b o, ad = ⟨b, o, none⟩ ∧ b < w.heap.size ∧ (∀ i, i < sp.length → w.cell? ⟨b, o + i * 2, none⟩ = some (.int .i64 ((sp.getD i (0, 0)).1 : Int))) ∧ (∀ i, i < sp.length → w.cell? ⟨b, o + i * 2 + 1, none⟩ = some (fnv (sp.getD i (0, 0)).2)) := by
  have key : ∀ i, i < sp.length → w.cell? (ad.add (i * 2)) = some (.int .i64 ((sp.getD i (0, 0)).1 : Int)) ∧ w.cell? ((ad.add (i * 2)).add 1) = some (fnv (sp.getD i (0, 0)).2) := by
    intro i hi
    have hm := getD_mem sp i hi
    obtain ⟨b, r, hn, hone⟩ := fn_ok _ (hf _ hm)
    obtain ⟨cs', m, q, hc, ht⟩ := h i (spanD ((sp.getD i (0, 0)).1 : Int) (nameOf (sp.getD i (0, 0)).2)) (by
      rw [hds, List.getElem?_map, List.getElem?_eq_getElem hi, List.getD_eq_getElem?_getD, List.getElem?_eq_getElem hi]; rfl)
    rw [hn] at ht
    obtain ⟨k0, k1⟩ := span_open hone ht
    obtain ⟨x, y, rfl, hx, hy⟩ := cells_two hc
    simp only [List.getElem?_cons_zero, List.getElem?_cons_succ, Option.some.injEq] at k0 k1
    subst k0 k1
    exact ⟨hx, hy⟩
  obtain ⟨b, o, spot⟩ := ad
  have h0 := (key 0 hpos).1
  have hspot : spot = none := by simpa [Addr.add] using World.cell?_spot h0
  subst hspot
  exact ⟨b, o, rfl, cell_lt h0, fun i hi => by have := (key i hi).1; rwa [add_eq] at this, fun i hi => by have := (key i hi).2; rwa [add_eq, add_eq] at this⟩
theorem row_at {cs : Array Value} {k j : Nat} {v : Value} (hj : j < 4) (h : ((cs.toList.drop (k * 4)).take 4)[j]? = some v) : cs[k * 4 + j]? = some v := by
  rw [List.getElem?_take, if_pos hj, List.getElem?_drop] at h
  simpa using h
theorem tab_of_laid {W : World} (h : laidMetH Tryd.prog laid4 W) : ∃ b0 o0 c0 b1 o1 c1 b3 o3 c3, Tab W b0 o0 c0 b1 o1 c1 b3 o3 c3 := by
  obtain ⟨g, t, cs, fuel, p, hg, ht, hv, hd⟩ := h.funcs (n := "giro/ident.kinds") (.tail _ (.tail _ (.tail _ (.head _))))
  obtain rfl := Option.some.inj (gKinds.symm.trans hg)
  obtain rfl := Option.some.inj (tKinds.symm.trans ht)
  have hd' : DataW.trod (funcToken Tryd.prog) Tryd.prog W 0 (fun _ => true) true fuel 60 cs.toList = some (.agg [
      kindD 12 [spanD 2 nLetter, spanD 9 nAlnum, spanD 1 nDigit] 11 (.held nLuhn), kindD 4 [spanD 1 nLetter, spanD 7 nAlnum] 0 .nil,
      kindD 1 [spanD 16 nRef] 0 .nil, kindD 20 [spanD 18 nAlnum, spanD 2 nDigit] 18 (.held nMod)], p) := hd
  clear hd
  obtain ⟨f0, d0, q0, e0, r0⟩ := Lib.array_elem Tryd.underlying60 hd' 0 (by decide)
  obtain ⟨f1, d1, q1, e1, r1⟩ := Lib.array_elem Tryd.underlying60 hd' 1 (by decide)
  obtain ⟨f3, d3, q3, e3, r3⟩ := Lib.array_elem Tryd.underlying60 hd' 3 (by decide)
  simp only [List.getElem?_cons_zero, List.getElem?_cons_succ, Option.some.injEq] at e0 e1 e3
  subst e0 e1 e3
  rw [cells59] at r0 r1 r3
  obtain ⟨ad0, c0, v0, m0, u0, a00, a01, a02, a03, a04, a05⟩ := kind_open r0 (by simp)
  obtain ⟨ad1, c1, v1, m1, u1, a10, a11, a12, a13, a14, a15⟩ := kind_open r1 (by simp)
  obtain ⟨ad3, c3, v3, m3, u3, a30, a31, a32, a33, a34, a35⟩ := kind_open r3 (by simp)
  obtain rfl := Go.func_of_trod (f0 := 12) Tryd.underlying33 (by kernel_rfl) a04
  obtain rfl := nil_of_trod a14
  obtain rfl := Go.func_of_trod (f0 := 73) Tryd.underlying33 (by kernel_rfl) a34
  obtain ⟨b0, o0, rfl, l0, s0, t0⟩ := spans_of sp0 (by decide) rfl (by decide) a05
  obtain ⟨b1, o1, rfl, l1, s1, t1⟩ := spans_of sp1 (by decide) rfl (by decide) a15
  obtain ⟨b3, o3, rfl, l3, s3, t3⟩ := spans_of sp3 (by decide) rfl (by decide) a35
  have vc := fun i => World.var?_cell gKinds hv i
  have k00 := (vc _).trans (row_at (by decide) a00)
  exact ⟨b0, o0, c0, b1, o1, c1, b3, o3, c3, ⟨cell_lt k00, k00, (vc _).trans (row_at (by decide) a01), (vc _).trans (row_at (by decide) a02), (vc _).trans (row_at (by decide) a03),
    (vc _).trans (row_at (by decide) a10), (vc _).trans (row_at (by decide) a11), (vc _).trans (row_at (by decide) a12), (vc _).trans (row_at (by decide) a13),
    (vc _).trans (row_at (by decide) a30), (vc _).trans (row_at (by decide) a31), (vc _).trans (row_at (by decide) a32), (vc _).trans (row_at (by decide) a33), l0, l1, l3, s0, t0, s1, t1, s3, t3⟩⟩
end Go.Proofs.YtiibgimanfkhdaaDoor
