/- FnVerifyData: for every hash kind, side, key and text the law answers true; no condition. -/
import Derived.Test.YtohankdfnjogfaaRows
import Derived.Test.YtohankdfnjogfaaRow
import Derived.Test.YtohankdfnjogfaaVdLaw
namespace Go.Proofs.Ytohankdfnjogfaa.fnVerifyData
open Go.ChangeShapes Go.WideShapes Go.ChangeAt Go.RowKit Go.Cv
open Go.ChangeMaps (open_string shut_string)
set_option linter.unusedVariables false

theorem own : ownKnob Try.prog.godebug = none := by kernel_rfl
theorem laidOut : laidOutB Try.prog = true := by kernel_rfl

set_option maxRecDepth 100000 in
theorem lifted (os : Os) (started : os.Started) (H : Type) (enc : TypeId × Value → H) :
    ReturnsInHanded {} Try.checked os 4 .any (Rows.fnVerifyDataSpec.pre6 enc Try.prog Try.f4 Rows.fnVerifyDataRow.domain false) (Rows.fnVerifyDataSpec.post enc Try.prog Try.f4 false true false false) := by
  refine returnsInHanded_of_change (C := Try.checked) own started (by kernel_rfl) Try.func4
    (ChangeSpec.witness6 (enc := enc) (C := Try.checked) false ⟨#[], #[.int .i64 0, .bool false, .string ByteArray.empty, .string ByteArray.empty], []⟩ 8 (by kernel_rfl) (by kernel_rfl) (by kernel_rfl) (by kernel_rfl)) ?_
  intro W base args ds gs before hval0 hW _ _
  have hval : ∀ (j : Nat) t v, Try.f4.params[j]? = some t → args[j]? = some v → Value.okWide Try.prog W .any base t v := hval0
  have hW' := hW
  obtain ⟨p, q, hA0, hV, rfl, hfz, hnd⟩ := hW
  have hA : DataW.TrodAll enc Try.prog W 0 (fun _ => true) true Try.f4.params.toList args.toList ds p := hA0
  rw [Try.params4] at hA hval
  obtain ⟨v0, vs0, d0, ds0, p0, q0, hargs0, rfl, rfl, h0, r0⟩ := trodAll_cons hA
  obtain ⟨v1, vs1, d1, ds1, p1, q1, hargs1, rfl, rfl, h1, r1⟩ := trodAll_cons r0
  subst hargs1
  obtain ⟨v2, vs2, d2, ds2, p2, q2, hargs2, rfl, rfl, h2, r2⟩ := trodAll_cons r1
  subst hargs2
  obtain ⟨v3, vs3, d3, ds3, p3, q3, hargs3, rfl, rfl, h3, r3⟩ := trodAll_cons r2
  subst hargs3
  obtain ⟨rfl, rfl, rfl⟩ := trodAll_nil r3
  obtain rfl : args = #[v0, v1, v2, v3] := by cases args; simp_all
  obtain ⟨x0, rfl, rfl, rfl, w0⟩ := open_int Try.underlying3 (hval 0 3 v0 rfl rfl) h0
  obtain ⟨x1, rfl, rfl, rfl⟩ := open_bool Try.underlying4 (hval 1 4 v1 rfl rfl) h1
  obtain ⟨a2, rfl, rfl, rfl, w2⟩ := open_string Try.underlying9 (hval 2 9 v2 rfl rfl) h2
  obtain ⟨l2, rfl⟩ := S_of a2
  obtain ⟨a3, rfl, rfl, rfl, w3⟩ := open_string Try.underlying9 (hval 3 9 v3 rfl rfl) h3
  obtain ⟨l3, rfl⟩ := S_of a3
  clear hA0 hval0
  refine (vd_row x0 w0 x1 l2 l3 W ).mono fun e W' ⟨he, hb⟩ => ?_
  subst he
  exact ⟨_, rfl, post_below laidOut hW' rfl (by kernel_rfl) rfl Try.underlying4 rfl hb⟩

theorem over : Rows.FnVerifyDataSaid :=
  OpenClaim.holds_of_wide 4 Try.f4 rfl rfl rfl rfl rfl rfl rfl ⟨rfl, rfl, rfl, rfl, rfl⟩ rfl rfl rfl rfl rfl (by kernel_rfl) Try.func4 (by kernel_rfl)
    (of_decide_eq_true (by kernel_rfl)) (by unfold Func.isWrapper; first | (rw [if_pos (by decide +kernel)]; kernel_rfl) | (rw [if_neg (by decide +kernel)]; exact ⟨rfl, rfl⟩))
    (fun os started H enc _ => lifted os started H enc)
theorem proved : Rows.FnVerifyDataSaid := over
#print axioms proved
end Go.Proofs.Ytohankdfnjogfaa.fnVerifyData
