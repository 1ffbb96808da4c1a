/- FnAdditionalDataCID: for every header and every length the law returns true; no condition. -/
import Derived.Test.YtkcacppcendhmaaRows
import Derived.Test.YtkcacppcendhmaaRow
import Derived.Test.YtkcacppcendhmaaAcidLaw
namespace Go.Proofs.Ytkcacppcendhmaa.fnAdditionalDataCID
open Go.ChangeShapes Go.WideShapes Go.ChangeAt Go.RowKit Go.Cv
open Go.ChangeMaps (open_string shut_string)
set_option linter.unusedVariables false

theorem own : ownKnob Try.prog.godebug = none := by kernel_rfl
theorem laidOut : laidOutB Try.prog = true := by kernel_rfl

set_option maxRecDepth 100000 in
theorem lifted (os : Os) (started : os.Started) (H : Type) (enc : TypeId × Value → H) :
    ReturnsInHanded {} Try.checked os 4 .any (Rows.fnAdditionalDataCIDSpec.pre6 enc Try.prog Try.f4 Rows.fnAdditionalDataCIDRow.domain false) (Rows.fnAdditionalDataCIDSpec.post enc Try.prog Try.f4 false true false false) := by
  refine returnsInHanded_of_change (C := Try.checked) own started (by kernel_rfl) Try.func4
    (ChangeSpec.witness6 (enc := enc) (C := Try.checked) false ⟨#[], #[.agg #[.int .u8 0, .int .u8 0, .int .u8 0, .int .u16 0, .int .u64 0, .int .u16 0, .string ByteArray.empty], .int .i64 0], []⟩ 8 (by kernel_rfl) (by kernel_rfl) (by kernel_rfl) (by kernel_rfl)) ?_
  intro W base args ds gs before hval0 hW _ _
  have hval : ∀ (j : Nat) t v, Try.f4.params[j]? = some t → args[j]? = some v → Value.okWide Try.prog W .any base t v := hval0
  have hW' := hW
  obtain ⟨p, q, hA0, hV, rfl, hfz, hnd⟩ := hW
  have hA : DataW.TrodAll enc Try.prog W 0 (fun _ => true) true Try.f4.params.toList args.toList ds p := hA0
  rw [Try.params4] at hA hval
  obtain ⟨v0, vs0, d0, ds0, p0, q0, hargs0, rfl, rfl, h0, r0⟩ := trodAll_cons hA
  obtain ⟨v1, vs1, d1, ds1, p1, q1, hargs1, rfl, rfl, h1, r1⟩ := trodAll_cons r0
  subst hargs1
  obtain ⟨rfl, rfl, rfl⟩ := trodAll_nil r1
  obtain rfl : args = #[v0, v1] := by cases args; simp_all
  obtain ⟨cs0, rfl, hcs0⟩ := okWide_struct Try.underlying27 (hval 0 27 v0 rfl rfl)
  obtain ⟨ys0, m0, hf0⟩ := trod_fields Try.underlying27 (by kernel_rfl) (by kernel_rfl) h0
  have hk0 : cs0.size = 7 := hcs0.trans (by kernel_rfl)
  obtain ⟨x0_0, e0_0, w0_0⟩ := field_int Try.underlying5 (hf0 0 _ rfl)
  obtain ⟨x0_1, e0_1, w0_1⟩ := field_int Try.underlying5 (hf0 1 _ rfl)
  obtain ⟨x0_2, e0_2, w0_2⟩ := field_int Try.underlying5 (hf0 2 _ rfl)
  obtain ⟨x0_3, e0_3, w0_3⟩ := field_int Try.underlying22 (hf0 3 _ rfl)
  obtain ⟨x0_4, e0_4, w0_4⟩ := field_int Try.underlying25 (hf0 4 _ rfl)
  obtain ⟨x0_5, e0_5, w0_5⟩ := field_int Try.underlying22 (hf0 5 _ rfl)
  obtain ⟨l0_6, e0_6⟩ := field_string Try.underlying9 (hf0 6 _ rfl)
  obtain ⟨x1, rfl, rfl, rfl, w1⟩ := open_int Try.underlying3 (hval 1 3 v1 rfl rfl) h1
  clear hA0 hval0
  refine (acid_row cs0 hk0 x0_0 e0_0 w0_0 x0_1 e0_1 w0_1 x0_2 e0_2 w0_2 x0_3 e0_3 w0_3 x0_4 e0_4 w0_4 x0_5 e0_5 w0_5 l0_6 e0_6 x1 w1 W ).mono fun e W' ⟨he, hb⟩ => ?_
  subst he
  exact ⟨_, rfl, post_below laidOut hW' rfl (by kernel_rfl) rfl Try.underlying4 rfl hb⟩

theorem over : Rows.FnAdditionalDataCIDSaid :=
  OpenClaim.holds_of_wide 4 Try.f4 rfl rfl rfl rfl rfl rfl rfl ⟨rfl, rfl, rfl, rfl, rfl⟩ rfl rfl rfl rfl rfl (by kernel_rfl) Try.func4 (by kernel_rfl)
    (of_decide_eq_true (by kernel_rfl)) (by unfold Func.isWrapper; first | (rw [if_pos (by decide +kernel)]; kernel_rfl) | (rw [if_neg (by decide +kernel)]; exact ⟨rfl, rfl⟩))
    (fun os started H enc _ => lifted os started H enc)
theorem proved : Rows.FnAdditionalDataCIDSaid := over
#print axioms proved
end Go.Proofs.Ytkcacppcendhmaa.fnAdditionalDataCID
