/- ValuationMonotone returns true for all quantities, prices and haircuts (any integers of 64 bits, valid or not); no condition. -/
import Derived.Test.YtiibgimanfkhdaaMono
import Derived.ProofKit
import Derived.OpenShut
import Derived.Lib.SmallJoins
import Derived.ChangeSame
namespace Go.Proofs.Ytiibgimanfkhdaa
open Go.ChangeShapes Go.WideShapes Go.ChangeAt Go.RowKit Go.Joins

theorem own : ownKnob Try.prog.godebug = none := by kernel_rfl
theorem cells2 : Try.prog.cellsOf 2 = 1 := by kernel_rfl
theorem cells23 : Try.prog.cellsOf 23 = 2 := by kernel_rfl

set_option maxRecDepth 100000 in
theorem mono_lifted (os : Os) (started : os.Started) (H : Type) (enc : TypeId × Value → H) :
    ReturnsInHanded {} Try.checked os 4 .any (Rows.valuationMonotoneSpec.pre6 enc Try.prog Try.f4 Rows.valuationMonotoneRow.domain false) (Rows.valuationMonotoneSpec.post enc Try.prog Try.f4 false true false false) := by
  refine returnsInHanded_of_change (C := Try.checked) own started (by kernel_rfl) Try.func4
    (ChangeSpec.witness6 (enc := enc) (C := Try.checked) false ⟨#[], #[.int .i64 0, .int .i64 0, .int .i64 0, .int .i64 0, .agg #[.int .i64 0, .int .i64 0], .agg #[.int .i64 0, .int .i64 0]], []⟩ 8 (by kernel_rfl) (by kernel_rfl) (by kernel_rfl) (by kernel_rfl)) ?_
  intro W base args ds gs before hval0 hW hcnd _
  have hval : ∀ (j : Nat) t v, Try.f4.params[j]? = some t → args[j]? = some v → Value.okWide Try.prog W .any base t v := hval0
  have hW' := hW
  obtain ⟨p, q, hA0, hV, rfl, hfz, hnd⟩ := hW
  have hA : DataW.TrodAll enc Try.prog W 0 (fun _ => true) true Try.f4.params.toList args.toList ds p := hA0
  rw [Try.params4] at hA hval
  obtain ⟨v0, vs0, d0, ds0, p0, q0, hargs, rfl, rfl, h0, r0⟩ := trodAll_cons hA
  obtain ⟨v1, vs1, d1, ds1, p1, q1, rfl, rfl, rfl, h1, r1⟩ := trodAll_cons r0
  obtain ⟨v2, vs2, d2, ds2, p2, q2, rfl, rfl, rfl, h2, r2⟩ := trodAll_cons r1
  obtain ⟨v3, vs3, d3, ds3, p3, q3, rfl, rfl, rfl, h3, r3⟩ := trodAll_cons r2
  obtain ⟨v4, vs4, d4, ds4, p4, q4, rfl, rfl, rfl, h4, r4⟩ := trodAll_cons r3
  obtain ⟨v5, vs5, d5, ds5, p5, q5, rfl, rfl, rfl, h5, r5⟩ := trodAll_cons r4
  obtain ⟨rfl, rfl, rfl⟩ := trodAll_nil r5
  obtain rfl : args = #[v0, v1, v2, v3, v4, v5] := by cases args; simp_all
  obtain ⟨rfl, rfl⟩ := trodVars_none hV
  obtain ⟨a0, rfl, rfl, rfl, w0⟩ := open_int Try.underlying2 (hval 0 2 v0 rfl rfl) h0
  obtain ⟨a1, rfl, rfl, rfl, w1⟩ := open_int Try.underlying2 (hval 1 2 v1 rfl rfl) h1
  obtain ⟨a2, rfl, rfl, rfl, w2⟩ := open_int Try.underlying2 (hval 2 2 v2 rfl rfl) h2
  obtain ⟨a3, rfl, rfl, rfl, w3⟩ := open_int Try.underlying2 (hval 3 2 v3 rfl rfl) h3
  obtain ⟨c0, c1, y0, y1, m, rfl, rfl, rfl, hy0, hy1⟩ := open_agg2 Try.underlying23 (by kernel_rfl) cells23 (hval 4 23 v4 rfl rfl) h4
  obtain ⟨n, e0, rfl, wn⟩ := DataW.trod_int Try.underlying2 hy0
  obtain ⟨d, e1, rfl, wd⟩ := DataW.trod_int Try.underlying2 hy1
  simp at e0 e1
  subst e0 e1
  obtain ⟨c2, c3, y2, y3, m', rfl, rfl, rfl, hy2, hy3⟩ := open_agg2 Try.underlying23 (by kernel_rfl) cells23 (hval 5 23 v5 rfl rfl) h5
  obtain ⟨n', e2, rfl, wn'⟩ := DataW.trod_int Try.underlying2 hy2
  obtain ⟨d', e3, rfl, wd'⟩ := DataW.trod_int Try.underlying2 hy3
  simp at e2 e3
  subst e2 e3
  clear hA0 hval0
  simp only [List.append_nil] at hW'
  have structReads : ∀ (n d : Int) (_ : (Lit.int .i64 n).wf = true) (_ : (Lit.int .i64 d).wf = true) (W' : World) (sp : Nat → Bool), DataW.Trod enc Try.prog W' 0 sp true 23 (.agg #[.int .i64 n, .int .i64 d]) (.agg [.lit (.int .i64 n), .lit (.int .i64 d)]) [] := fun n d wn wd W' sp =>
    shut_agg2 (y0 := (.lit (.int .i64 n), [])) (y1 := (.lit (.int .i64 d), [])) Try.underlying23 (by kernel_rfl) cells23 ⟨1, by simp [DataW.trod, Try.underlying2, wn]⟩ ⟨1, by simp [DataW.trod, Try.underlying2, wd]⟩
  obtain ⟨b1, b2⟩ := bounds_i64 w1
  refine (law_monotone a0 a1 a2 a3 n d n' d' b1 b2 W).mono fun e W' ⟨he, bel⟩ => ?_
  subst he
  exact ⟨_, rfl, _, _, _, [], [], [], hW', trodAll_mk1 (shut_bool Try.underlying4 _), trodAll_cons_mk (shut_int Try.underlying2 w0) (trodAll_cons_mk (shut_int Try.underlying2 w1) (trodAll_cons_mk (shut_int Try.underlying2 w2) (trodAll_cons_mk (shut_int Try.underlying2 w3) (trodAll_cons_mk (structReads _ _ wn wd _ _) (trodAll_cons_mk (structReads _ _ wn' wd' _ _) trodAll_mk0))))), rfl, bel.frame _, fun h => by cases h⟩

theorem valuationMonotone_holds : Rows.ValuationMonotoneSaid :=
  OpenClaim.holds_of_wide 4 Try.f4 rfl rfl rfl rfl rfl rfl rfl ⟨rfl, rfl, rfl, rfl, rfl⟩ rfl rfl rfl rfl rfl (by kernel_rfl) Try.func4 (by kernel_rfl)
    (of_decide_eq_true (by kernel_rfl)) (by unfold Func.isWrapper; rw [if_neg (of_decide_eq_false (by kernel_rfl))]; exact ⟨rfl, rfl⟩)
    (fun os started H enc _ => mono_lifted os started H enc)
#print axioms valuationMonotone_holds
end Go.Proofs.Ytiibgimanfkhdaa
