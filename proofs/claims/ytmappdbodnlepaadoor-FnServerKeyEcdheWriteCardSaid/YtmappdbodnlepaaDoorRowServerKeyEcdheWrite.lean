/- FnServerKeyEcdheWrite: a server signed key exchange by a curve is written as the standard lays it out; no condition. -/
import Derived.Test.YtmappdbodnlepaaDoorRows
import Derived.Test.YtmappdbodnlepaaDoorCards
import Derived.Test.YtmappdbodnlepaaDoorTie
import Derived.SevenTiedAt
import Derived.Test.YtmappdbodnlepaaDoorRow
import Derived.Test.YtmappdbodnlepaaDoorSkeLaw
namespace Go.Proofs.YtmappdbodnlepaaDoor.fnServerKeyEcdheWrite
open Go.ChangeShapes Go.WideShapes Go.ChangeAt Go.RowKit Go.Cv
open Go.ChangeMaps (open_string shut_string)
set_option linter.unusedVariables false

theorem own : ownKnob Tryd.prog.godebug = none := by kernel_rfl
theorem laidOut : laidOutB Tryd.prog = true := by kernel_rfl
def laidL : List (String × DataW Unit) := [("pub-convoy/pub/dtls/pkg/protocol/handshake.errInvalidSignHashAlgorithm", Rows.laid_pub_convoy_pub_dtls_pkg_protocol_handshake_errInvalidSignHashAlgorithm)]
theorem g0 : Tryd.prog.globalNamed "pub-convoy/pub/dtls/pkg/protocol/handshake.errInvalidSignHashAlgorithm" = some 6 := by kernel_rfl
theorem gt0 : (Tryd.prog.globals[6]?).map (·.type) = some 70 := by kernel_rfl
theorem star : "*" ++ "errors.errorString" = "*errors.errorString" := by decide
theorem rowE (u : TypeId) (h : Tryd.prog.typeName? 3 u = some "*errors.errorString") : u = 155 :=
  typeName_ptr_named (nm := "errors.errorString") (by rw [star]; kernel_rfl) (by kernel_rfl) (by decide) u (by rw [star]; exact h)
theorem cE : Tryd.prog.cellsOf 173 = 1 := by kernel_rfl
theorem cS : Tryd.prog.cellsOf 9 = 1 := by kernel_rfl
theorem door_met (os : Os) (args : Array Value) : laidMetH Tryd.prog laidL ((World.doorLaid Tryd.prog 4000 os).forCall (fun _ _ => 0) ⟨#[], args, []⟩).memory :=
  laidMetH_of_parts3 (fuel := 8) (laidMet_of_run' 8 (by kernel_rfl) (by kernel_rfl)) (by kernel_rfl) (by kernel_rfl)

set_option maxRecDepth 100000 in
theorem lifted (os : Os) (started : os.Started) (H : Type) (enc : TypeId × Value → H) :
    ReturnsInHanded {} Tryd.checked os 4 .any (fun w args => (Rows.fnServerKeyEcdheWriteSpec.pre enc Tryd.prog Tryd.f4 [] false w args ∧ laidMetH Tryd.prog laidL w) ∧ sizedMet enc Tryd.prog Tryd.f4 (OpenSpec.ofChange Rows.fnServerKeyEcdheWriteSpec) false w args)
      (Rows.fnServerKeyEcdheWriteSpec.post enc Tryd.prog Tryd.f4 false true false false) := by
  refine returnsInHanded_of_change_and (C := Tryd.checked) (X := fun w _ => laidMetH Tryd.prog laidL w) (fun _ _ _ hh h => h.of_heap hh) own started (by kernel_rfl) Tryd.func4
    (ChangeSpec.witness_shaped (enc := enc) (C := Tryd.checked) (os := os) (X := fun w _ => laidMetH Tryd.prog laidL w) false (World.doorLaid Tryd.prog 4000 os) #[.int .u16 0, .string ByteArray.empty, .agg #[.int .u16 0, .int .u16 0], .string ByteArray.empty] 8 rfl (World.shaped_of_RefB (by kernel_rfl) (by kernel_rfl)) (by kernel_rfl) (by kernel_rfl) (by kernel_rfl) (door_met os _)) ?_
  intro W base args ds gs before hval0 hW _ hsz0 hL _
  have hval : ∀ (j : Nat) t v, Tryd.f4.params[j]? = some t → args[j]? = some v → Value.okWide Tryd.prog W .any base t v := hval0
  have hW' := hW
  obtain ⟨p, q, hA0, hV, rfl, hfz, hnd⟩ := hW
  have hA : DataW.TrodAll enc Tryd.prog W 0 (fun _ => true) true Tryd.f4.params.toList args.toList ds p := hA0
  rw [Tryd.params4] at hA hval
  obtain ⟨v0, vs0, d0, ds0, p0, q0, hargs0, rfl, rfl, h0, r0⟩ := trodAll_cons hA
  obtain ⟨v1, vs1, d1, ds1, p1, q1, hargs1, rfl, rfl, h1, r1⟩ := trodAll_cons r0
  subst hargs1
  obtain ⟨v2, vs2, d2, ds2, p2, q2, hargs2, rfl, rfl, h2, r2⟩ := trodAll_cons r1
  subst hargs2
  obtain ⟨v3, vs3, d3, ds3, p3, q3, hargs3, rfl, rfl, h3, r3⟩ := trodAll_cons r2
  subst hargs3
  obtain ⟨rfl, rfl, rfl⟩ := trodAll_nil r3
  obtain rfl : args = #[v0, v1, v2, v3] := by cases args; simp_all
  obtain ⟨x0, rfl, rfl, rfl, w0⟩ := open_int Tryd.underlying22 (hval 0 22 v0 rfl rfl) h0
  obtain ⟨a1, rfl, rfl, rfl, w1⟩ := open_string Tryd.underlying9 (hval 1 9 v1 rfl rfl) h1
  obtain ⟨l1, rfl⟩ := S_of a1
  obtain ⟨cs2, rfl, hcs2⟩ := okWide_struct Tryd.underlying33 (hval 2 33 v2 rfl rfl)
  obtain ⟨ys2, m2, hf2⟩ := trod_fields Tryd.underlying33 (by kernel_rfl) (by kernel_rfl) h2
  have hk2 : cs2.size = 2 := hcs2.trans (by kernel_rfl)
  obtain ⟨x2_0, e2_0, w2_0⟩ := field_int Tryd.underlying22 (hf2 0 _ rfl)
  obtain ⟨x2_1, e2_1, w2_1⟩ := field_int Tryd.underlying22 (hf2 1 _ rfl)
  obtain ⟨a3, rfl, rfl, rfl, w3⟩ := open_string Tryd.underlying9 (hval 3 9 v3 rfl rfl) h3
  obtain ⟨l3, rfl⟩ := S_of a3
  clear hA0 hval0
  rw [MakeChecks.laidMetH_plain _ _ _ (by kernel_rfl)] at hL
  obtain ⟨ad0, hg0⟩ := sentinel_cell (text := [105, 110, 118, 97, 108, 105, 100, 32, 115, 105, 103, 110, 97, 116, 117, 114, 101, 47, 104, 97, 115, 104, 32, 97, 108, 103, 111, 114, 105, 116, 104, 109]) hL (List.Mem.head _) g0 gt0 Tryd.underlying70 rowE Tryd.underlying155 Tryd.underlying173 rfl rfl Tryd.underlying9 cE cS
  refine (skl_row x0 w0 l1 cs2 hk2 x2_0 e2_0 w2_0 x2_1 e2_1 w2_1 l3 W ad0 hg0).mono fun e W' ⟨he, hb⟩ => ?_
  subst he
  exact ⟨_, rfl, post_below laidOut hW' rfl (by kernel_rfl) rfl Tryd.underlying4 rfl hb⟩

theorem over : Rows.FnServerKeyEcdheWriteSaid :=
  OpenClaim.holds_of_wide 4 Tryd.f4 rfl rfl rfl rfl rfl rfl rfl ⟨rfl, rfl, rfl, rfl, rfl⟩ rfl rfl rfl rfl rfl (by kernel_rfl) Tryd.func4 (by kernel_rfl)
    (of_decide_eq_true (by kernel_rfl)) (by unfold Func.isWrapper; first | (rw [if_pos (by decide +kernel)]; kernel_rfl) | (rw [if_neg (by decide +kernel)]; exact ⟨rfl, rfl⟩))
    (fun os started H enc _ => lifted os started H enc)
theorem proved : Rows.FnServerKeyEcdheWriteCardSaid :=
  Claim7.holds_tied_plain_at .later [] [.sentinel] true (true, "41914a2ff5468c2cd7a71fb7ca5e36021237b037fe15ea40d4db026a2615582a") false
    over (fun _ h => by cases h) (by kernel_rfl) (fun _ h => by cases h) fnServerKeyEcdheWrite_row_tie rfl ⟨rfl, rfl⟩ (by kernel_rfl) rfl
    (fun f fn hf hfn => by
      obtain rfl : f = 4 := Option.some.inj ((show Tryd.prog.funcNamed "pub-convoy/laws.FnServerKeyEcdheWrite" = some 4 by kernel_rfl).symm.trans hf) |>.symm
      obtain rfl : fn = Tryd.f4 := (Option.some.inj (Tryd.func4.symm.trans hfn)).symm
      exact ⟨by kernel_rfl, fun j t ht => by
        rw [Tryd.params4] at ht
        have hm : t ∈ [22, 9, 33, 9] := by simpa using Array.mem_of_getElem? ht
        have hall : ([22, 9, 33, 9].all fun u => !Tryd.prog.wantsStandIn u) = true := by kernel_rfl
        exact (show Tryd.prog.wantsStandIn t = false by simpa using List.all_eq_true.1 hall t hm)⟩)
    (by kernel_rfl)
#print axioms proved
end Go.Proofs.YtmappdbodnlepaaDoor.fnServerKeyEcdheWrite
