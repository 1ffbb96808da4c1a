/- FnChachaCIDSeal: for every key, vector, header and text the law answers true; no condition. -/
import Derived.Test.YtpedkkmoplbdhaaDoorRows
import Derived.Test.YtpedkkmoplbdhaaDoorCards
import Derived.Test.YtpedkkmoplbdhaaDoorTie
import Derived.SevenTiedAt
import Derived.Test.YtpedkkmoplbdhaaDoorRow
import Derived.Test.YtpedkkmoplbdhaaDoorChLaw
namespace Go.Proofs.YtpedkkmoplbdhaaDoor.fnChachaCIDSeal
open Go.ChangeShapes Go.WideShapes Go.ChangeAt Go.RowKit Go.Cv
open Go.ChangeMaps (open_string shut_string)
set_option linter.unusedVariables false

theorem own : ownKnob Tryd.prog.godebug = none := by kernel_rfl
theorem laidOut : laidOutB Tryd.prog = true := by kernel_rfl
def laidL : List (String × DataW Unit) := [("pub-convoy/pub/dtls/pkg/protocol/recordlayer.errSequenceNumberOverflow", Rows.laid_pub_convoy_pub_dtls_pkg_protocol_recordlayer_errSequenceNumberOverflow)]
theorem g0 : Tryd.prog.globalNamed "pub-convoy/pub/dtls/pkg/protocol/recordlayer.errSequenceNumberOverflow" = some 3 := by kernel_rfl
theorem gt0 : (Tryd.prog.globals[3]?).map (·.type) = some 57 := by kernel_rfl
theorem star : "*" ++ "errors.errorString" = "*errors.errorString" := by decide
theorem rowE (u : TypeId) (h : Tryd.prog.typeName? 3 u = some "*errors.errorString") : u = 187 :=
  typeName_ptr_named (nm := "errors.errorString") (by rw [star]; kernel_rfl) (by kernel_rfl) (by decide) u (by rw [star]; exact h)
theorem cE : Tryd.prog.cellsOf 189 = 1 := by kernel_rfl
theorem cS : Tryd.prog.cellsOf 9 = 1 := by kernel_rfl
theorem door_met (os : Os) (args : Array Value) : laidMetH Tryd.prog laidL ((World.doorLaid Tryd.prog 4000 os).forCall (fun _ _ => 0) ⟨#[], args, []⟩).memory :=
  laidMetH_of_parts3 (fuel := 8) (laidMet_of_run' 8 (by kernel_rfl) (by kernel_rfl)) (by kernel_rfl) (by kernel_rfl)

set_option maxRecDepth 100000 in
theorem lifted (os : Os) (started : os.Started) (H : Type) (enc : TypeId × Value → H) :
    ReturnsInHanded {} Tryd.checked os 3 .any (fun w args => (Rows.fnChachaCIDSealSpec.pre enc Tryd.prog Tryd.f3 [] false w args ∧ laidMetH Tryd.prog laidL w) ∧ sizedMet enc Tryd.prog Tryd.f3 (OpenSpec.ofChange Rows.fnChachaCIDSealSpec) false w args)
      (Rows.fnChachaCIDSealSpec.post enc Tryd.prog Tryd.f3 false true false false) := by
  refine returnsInHanded_of_change_and (C := Tryd.checked) (X := fun w _ => laidMetH Tryd.prog laidL w) (fun _ _ _ hh h => h.of_heap hh) own started (by kernel_rfl) Tryd.func3
    (ChangeSpec.witness_shaped (enc := enc) (C := Tryd.checked) (os := os) (X := fun w _ => laidMetH Tryd.prog laidL w) false (World.doorLaid Tryd.prog 4000 os) #[.string ByteArray.empty, .string ByteArray.empty, .agg #[.int .u8 0, .int .u8 0, .int .u8 0, .int .u16 0, .int .u64 0, .int .u16 0, .string ByteArray.empty], .string ByteArray.empty] 8 rfl (World.shaped_of_RefB (by kernel_rfl) (by kernel_rfl)) (by kernel_rfl) (by kernel_rfl) (by kernel_rfl) (door_met os _)) ?_
  intro W base args ds gs before hval0 hW _ hsz0 hL _
  have hval : ∀ (j : Nat) t v, Tryd.f3.params[j]? = some t → args[j]? = some v → Value.okWide Tryd.prog W .any base t v := hval0
  have hW' := hW
  obtain ⟨p, q, hA0, hV, rfl, hfz, hnd⟩ := hW
  have hA : DataW.TrodAll enc Tryd.prog W 0 (fun _ => true) true Tryd.f3.params.toList args.toList ds p := hA0
  rw [Tryd.params3] at hA hval
  obtain ⟨v0, vs0, d0, ds0, p0, q0, hargs0, rfl, rfl, h0, r0⟩ := trodAll_cons hA
  obtain ⟨v1, vs1, d1, ds1, p1, q1, hargs1, rfl, rfl, h1, r1⟩ := trodAll_cons r0
  subst hargs1
  obtain ⟨v2, vs2, d2, ds2, p2, q2, hargs2, rfl, rfl, h2, r2⟩ := trodAll_cons r1
  subst hargs2
  obtain ⟨v3, vs3, d3, ds3, p3, q3, hargs3, rfl, rfl, h3, r3⟩ := trodAll_cons r2
  subst hargs3
  obtain ⟨rfl, rfl, rfl⟩ := trodAll_nil r3
  obtain rfl : args = #[v0, v1, v2, v3] := by cases args; simp_all
  obtain ⟨a0, rfl, rfl, rfl, w0⟩ := open_string Tryd.underlying9 (hval 0 9 v0 rfl rfl) h0
  obtain ⟨l0, rfl⟩ := S_of a0
  obtain ⟨a1, rfl, rfl, rfl, w1⟩ := open_string Tryd.underlying9 (hval 1 9 v1 rfl rfl) h1
  obtain ⟨l1, rfl⟩ := S_of a1
  obtain ⟨cs2, rfl, hcs2⟩ := okWide_struct Tryd.underlying25 (hval 2 25 v2 rfl rfl)
  obtain ⟨ys2, m2, hf2⟩ := trod_fields Tryd.underlying25 (by kernel_rfl) (by kernel_rfl) h2
  have hk2 : cs2.size = 7 := hcs2.trans (by kernel_rfl)
  obtain ⟨x2_0, e2_0, w2_0⟩ := field_int Tryd.underlying5 (hf2 0 _ rfl)
  obtain ⟨x2_1, e2_1, w2_1⟩ := field_int Tryd.underlying5 (hf2 1 _ rfl)
  obtain ⟨x2_2, e2_2, w2_2⟩ := field_int Tryd.underlying5 (hf2 2 _ rfl)
  obtain ⟨x2_3, e2_3, w2_3⟩ := field_int Tryd.underlying22 (hf2 3 _ rfl)
  obtain ⟨x2_4, e2_4, w2_4⟩ := field_int Tryd.underlying23 (hf2 4 _ rfl)
  obtain ⟨x2_5, e2_5, w2_5⟩ := field_int Tryd.underlying22 (hf2 5 _ rfl)
  obtain ⟨l2_6, e2_6⟩ := field_string Tryd.underlying9 (hf2 6 _ rfl)
  obtain ⟨a3, rfl, rfl, rfl, w3⟩ := open_string Tryd.underlying9 (hval 3 9 v3 rfl rfl) h3
  obtain ⟨l3, rfl⟩ := S_of a3
  clear hA0 hval0
  rw [MakeChecks.laidMetH_plain _ _ _ (by kernel_rfl)] at hL
  obtain ⟨ad0, hg0⟩ := sentinel_cell (text := [115, 101, 113, 117, 101, 110, 99, 101, 32, 110, 117, 109, 98, 101, 114, 32, 111, 118, 101, 114, 102, 108, 111, 119]) hL (List.Mem.head _) g0 gt0 Tryd.underlying57 rowE Tryd.underlying187 Tryd.underlying189 rfl rfl Tryd.underlying9 cE cS
  refine (ch_row l0 l1 cs2 hk2 x2_0 e2_0 w2_0 x2_1 e2_1 w2_1 x2_2 e2_2 w2_2 x2_3 e2_3 w2_3 x2_4 e2_4 w2_4 x2_5 e2_5 w2_5 l2_6 e2_6 l3 W ad0 hg0).mono fun e W' ⟨he, hb⟩ => ?_
  subst he
  exact ⟨_, rfl, post_below laidOut hW' rfl (by kernel_rfl) rfl Tryd.underlying4 rfl hb⟩

theorem over : Rows.FnChachaCIDSealSaid :=
  OpenClaim.holds_of_wide 3 Tryd.f3 rfl rfl rfl rfl rfl rfl rfl ⟨rfl, rfl, rfl, rfl, rfl⟩ rfl rfl rfl rfl rfl (by kernel_rfl) Tryd.func3 (by kernel_rfl)
    (of_decide_eq_true (by kernel_rfl)) (by unfold Func.isWrapper; first | (rw [if_pos (by decide +kernel)]; kernel_rfl) | (rw [if_neg (by decide +kernel)]; exact ⟨rfl, rfl⟩))
    (fun os started H enc _ => lifted os started H enc)
theorem proved : Rows.FnChachaCIDSealCardSaid :=
  Claim7.holds_tied_plain_at .later [] [.sentinel] true (true, "d53b80530fca991b372febf8a60147cea808990a91a0cf21705c739f67ff2c28") true
    over (fun _ h => by cases h) (by kernel_rfl) (fun _ h => by cases h) fnChachaCIDSeal_row_tie rfl ⟨rfl, rfl⟩ (by kernel_rfl) rfl
    (fun f fn hf hfn => by
      obtain rfl : f = 3 := Option.some.inj ((show Tryd.prog.funcNamed "pub-convoy/laws.FnChachaCIDSeal" = some 3 by kernel_rfl).symm.trans hf) |>.symm
      obtain rfl : fn = Tryd.f3 := (Option.some.inj (Tryd.func3.symm.trans hfn)).symm
      exact ⟨by kernel_rfl, fun j t ht => by
        rw [Tryd.params3] at ht
        have hm : t ∈ [9, 9, 25, 9] := by simpa using Array.mem_of_getElem? ht
        have hall : ([9, 9, 25, 9].all fun u => !Tryd.prog.wantsStandIn u) = true := by kernel_rfl
        exact (show Tryd.prog.wantsStandIn t = false by simpa using List.all_eq_true.1 hall t hm)⟩)
    (by kernel_rfl)
#print axioms proved
end Go.Proofs.YtpedkkmoplbdhaaDoor.fnChachaCIDSeal
