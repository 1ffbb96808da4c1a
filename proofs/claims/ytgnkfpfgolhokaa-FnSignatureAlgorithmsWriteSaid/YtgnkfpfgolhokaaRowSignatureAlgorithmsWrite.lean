/- FnSignatureAlgorithmsWrite: for every list of pairs the law returns true; no condition. -/
import Derived.Test.YtgnkfpfgolhokaaRows
import Derived.Test.YtgnkfpfgolhokaaRow
import Derived.Test.YtgnkfpfgolhokaaSigWLaw
namespace Go.Proofs.Ytgnkfpfgolhokaa.fnSignatureAlgorithmsWrite
open Go.ChangeShapes Go.WideShapes Go.ChangeAt Go.RowKit Go.Cv
open Go.ChangeMaps (open_string shut_string)
set_option linter.unusedVariables false

theorem own : ownKnob Try.prog.godebug = none := by kernel_rfl
theorem laidOut : laidOutB Try.prog = true := by kernel_rfl

set_option maxRecDepth 100000 in
theorem lifted (os : Os) (started : os.Started) (H : Type) (enc : TypeId × Value → H) :
    ReturnsInHanded {} Try.checked os 3 .any (Rows.fnSignatureAlgorithmsWriteSpec.pre6 enc Try.prog Try.f3 Rows.fnSignatureAlgorithmsWriteRow.domain false) (Rows.fnSignatureAlgorithmsWriteSpec.post enc Try.prog Try.f3 false true false false) := by
  refine returnsInHanded_of_change (C := Try.checked) own started (by kernel_rfl) Try.func3
    (ChangeSpec.witness6 (enc := enc) (C := Try.checked) false ⟨#[], #[.slice none 0 0], []⟩ 8 (by kernel_rfl) (by kernel_rfl) (by kernel_rfl) (by kernel_rfl)) ?_
  intro W base args ds gs before hval0 hW _ _
  have hval : ∀ (j : Nat) t v, Try.f3.params[j]? = some t → args[j]? = some v → Value.okWide Try.prog W .any base t v := hval0
  have hW' := hW
  obtain ⟨p, q, hA0, hV, rfl, hfz, hnd⟩ := hW
  have hA : DataW.TrodAll enc Try.prog W 0 (fun _ => true) true Try.f3.params.toList args.toList ds p := hA0
  rw [Try.params3] at hA hval
  obtain ⟨v0, vs0, d0, ds0, p0, q0, hargs0, rfl, rfl, h0, r0⟩ := trodAll_cons hA
  obtain ⟨rfl, rfl, rfl⟩ := trodAll_nil r0
  obtain rfl : args = #[v0] := by cases args; simp_all
  obtain ⟨A0, n0, c0, rfl⟩ := okWide_slice Try.underlying22 (hval 0 22 v0 rfl rfl)
  obtain ⟨z0, hz0, hn0, hr0⟩ := rd_pairs Try.underlying22 Try.underlying39 (by kernel_rfl) rfl rfl (by kernel_rfl) (by kernel_rfl) Try.underlying26 Try.underlying26 h0
  clear hA0 hval0
  refine (sgl_row A0 n0 c0 z0 hz0 hn0 W hr0 ).mono fun e W' ⟨he, hb⟩ => ?_
  subst he
  exact ⟨_, rfl, post_below laidOut hW' rfl (by kernel_rfl) rfl Try.underlying4 rfl hb⟩

theorem over : Rows.FnSignatureAlgorithmsWriteSaid :=
  OpenClaim.holds_of_wide 3 Try.f3 rfl rfl rfl rfl rfl rfl rfl ⟨rfl, rfl, rfl, rfl, rfl⟩ rfl rfl rfl rfl rfl (by kernel_rfl) Try.func3 (by kernel_rfl)
    (of_decide_eq_true (by kernel_rfl)) (by unfold Func.isWrapper; first | (rw [if_pos (by decide +kernel)]; kernel_rfl) | (rw [if_neg (by decide +kernel)]; exact ⟨rfl, rfl⟩))
    (fun os started H enc _ => lifted os started H enc)
theorem proved : Rows.FnSignatureAlgorithmsWriteSaid := over
#print axioms proved
end Go.Proofs.Ytgnkfpfgolhokaa.fnSignatureAlgorithmsWrite
