/- ValuationValue returns true for every quantity, every price and every haircut (any integers of 64 bits, valid or not); no condition. -/
import Derived.Test.YtiibgimanfkhdaaLaw
import Derived.ProofKit
import Derived.OpenShut
import Derived.Lib.SmallJoins
import Derived.ChangeSame
namespace Go.Proofs.Ytiibgimanfkhdaa
open Go.ChangeShapes Go.WideShapes Go.ChangeAt Go.RowKit Go.Joins

theorem own : ownKnob Try.prog.godebug = none := by kernel_rfl
theorem cells2 : Try.prog.cellsOf 2 = 1 := by kernel_rfl
theorem cells23 : Try.prog.cellsOf 23 = 2 := by kernel_rfl

set_option maxRecDepth 100000 in
theorem value_lifted (os : Os) (started : os.Started) (H : Type) (enc : TypeId × Value → H) :
    ReturnsInHanded {} Try.checked os 3 .any (Rows.valuationValueSpec.pre6 enc Try.prog Try.f3 Rows.valuationValueRow.domain false) (Rows.valuationValueSpec.post enc Try.prog Try.f3 false true false false) := by
  refine returnsInHanded_of_change (C := Try.checked) own started (by kernel_rfl) Try.func3
    (ChangeSpec.witness6 (enc := enc) (C := Try.checked) false ⟨#[], #[.int .i64 0, .int .i64 0, .agg #[.int .i64 0, .int .i64 0]], []⟩ 8 (by kernel_rfl) (by kernel_rfl) (by kernel_rfl) (by kernel_rfl)) ?_
  intro W base args ds gs before hval0 hW hcnd _
  have hval : ∀ (j : Nat) t v, Try.f3.params[j]? = some t → args[j]? = some v → Value.okWide Try.prog W .any base t v := hval0
  have hW' := hW
  obtain ⟨p, q, hA0, hV, rfl, hfz, hnd⟩ := hW
  have hA : DataW.TrodAll enc Try.prog W 0 (fun _ => true) true Try.f3.params.toList args.toList ds p := hA0
  rw [Try.params3] at hA hval
  obtain ⟨v0, v1, v2, d0, d1, d2, p0, p1, p2, rfl, rfl, rfl, h0, h1, h2⟩ := trodAll_three hA
  obtain ⟨rfl, rfl⟩ := trodVars_none hV
  obtain ⟨a0, rfl, rfl, rfl, w0⟩ := open_int Try.underlying2 (hval 0 2 v0 rfl rfl) h0
  obtain ⟨a1, rfl, rfl, rfl, w1⟩ := open_int Try.underlying2 (hval 1 2 v1 rfl rfl) h1
  obtain ⟨c0, c1, y0, y1, m, rfl, rfl, rfl, hy0, hy1⟩ := open_agg2 Try.underlying23 (by kernel_rfl) cells23 (hval 2 23 v2 rfl rfl) h2
  obtain ⟨n, e0, rfl, wn⟩ := DataW.trod_int Try.underlying2 hy0
  obtain ⟨d, e1, rfl, wd⟩ := DataW.trod_int Try.underlying2 hy1
  simp at e0 e1
  subst e0 e1
  clear hA0 hval0
  simp only [List.append_nil] at hW'
  have structReads : ∀ (W' : World) (sp : Nat → Bool), DataW.Trod enc Try.prog W' 0 sp true 23 (.agg #[.int .i64 n, .int .i64 d]) (.agg [.lit (.int .i64 n), .lit (.int .i64 d)]) [] := fun W' sp =>
    shut_agg2 (y0 := (.lit (.int .i64 n), [])) (y1 := (.lit (.int .i64 d), [])) Try.underlying23 (by kernel_rfl) cells23 ⟨1, by simp [DataW.trod, Try.underlying2, wn]⟩ ⟨1, by simp [DataW.trod, Try.underlying2, wd]⟩
  refine (law_value a0 a1 n d W).mono fun e W' ⟨he, bel⟩ => ?_
  subst he
  exact ⟨_, rfl, _, _, _, [], [], [], hW', trodAll_mk1 (shut_bool Try.underlying4 _), trodAll_mk3 (shut_int Try.underlying2 w0) (shut_int Try.underlying2 w1) (structReads _ _), rfl, bel.frame _, fun h => by cases h⟩

theorem valuationValue_holds : Rows.ValuationValueSaid :=
  OpenClaim.holds_of_wide 3 Try.f3 rfl rfl rfl rfl rfl rfl rfl ⟨rfl, rfl, rfl, rfl, rfl⟩ rfl rfl rfl rfl rfl (by kernel_rfl) Try.func3 (by kernel_rfl)
    (of_decide_eq_true (by kernel_rfl)) (by unfold Func.isWrapper; rw [if_neg (of_decide_eq_false (by kernel_rfl))]; exact ⟨rfl, rfl⟩)
    (fun os started H enc _ => value_lifted os started H enc)
#print axioms valuationValue_holds
end Go.Proofs.Ytiibgimanfkhdaa
