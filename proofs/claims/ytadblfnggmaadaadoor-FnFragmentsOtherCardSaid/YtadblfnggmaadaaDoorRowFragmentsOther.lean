/- FnFragmentsOther: a record that is no handshake message is left alone; no condition. -/
import Derived.Test.YtadblfnggmaadaaDoorRows
import Derived.Test.YtadblfnggmaadaaDoorCards
import Derived.Test.YtadblfnggmaadaaDoorTie
import Derived.SevenTiedAt
import Derived.Test.YtadblfnggmaadaaDoorBase
import Derived.Test.YtadblfnggmaadaaDoorFgO
namespace Go.Proofs.YtadblfnggmaadaaDoor.fnFragmentsOther
open Go.ChangeShapes Go.WideShapes Go.ChangeAt Go.RowKit Go.Cv
open Go.ChangeMaps (open_string shut_string)
set_option linter.unusedVariables false

theorem own : ownKnob Tryd.prog.godebug = none := by kernel_rfl
theorem laidOut : laidOutB Tryd.prog = true := by kernel_rfl
def laidL : List (String × DataW Unit) := [("pub-convoy/pub/dtls/pkg/protocol.Version1_0", Rows.laid_pub_convoy_pub_dtls_pkg_protocol_Version1_0), ("pub-convoy/pub/dtls/pkg/protocol.Version1_2", Rows.laid_pub_convoy_pub_dtls_pkg_protocol_Version1_2), ("pub-convoy/pub/dtls/pkg/protocol/handshake.errBufferTooSmall", Rows.laid_pub_convoy_pub_dtls_pkg_protocol_handshake_errBufferTooSmall), ("pub-convoy/pub/dtls/pkg/protocol/recordlayer.errBufferTooSmall", Rows.laid_pub_convoy_pub_dtls_pkg_protocol_recordlayer_errBufferTooSmall), ("pub-convoy/pub/dtls/pkg/protocol/recordlayer.errUnsupportedProtocolVersion", Rows.laid_pub_convoy_pub_dtls_pkg_protocol_recordlayer_errUnsupportedProtocolVersion), ("pub-convoy/pub/dtls.errBufferTooSmall", Rows.laid_pub_convoy_pub_dtls_errBufferTooSmall), ("pub-convoy/pub/dtls.errFragmentBufferOverflow", Rows.laid_pub_convoy_pub_dtls_errFragmentBufferOverflow)]
theorem g0 : Tryd.prog.globalNamed "pub-convoy/pub/dtls/pkg/protocol.Version1_0" = some 4 := by kernel_rfl
theorem gt0 : (Tryd.prog.globals[4]?).map (·.type) = some 108 := by kernel_rfl
theorem g1 : Tryd.prog.globalNamed "pub-convoy/pub/dtls/pkg/protocol.Version1_2" = some 5 := by kernel_rfl
theorem gt1 : (Tryd.prog.globals[5]?).map (·.type) = some 108 := by kernel_rfl
theorem g2 : Tryd.prog.globalNamed "pub-convoy/pub/dtls/pkg/protocol/handshake.errBufferTooSmall" = some 7 := by kernel_rfl
theorem gt2 : (Tryd.prog.globals[7]?).map (·.type) = some 62 := by kernel_rfl
theorem g3 : Tryd.prog.globalNamed "pub-convoy/pub/dtls/pkg/protocol/recordlayer.errBufferTooSmall" = some 2 := by kernel_rfl
theorem gt3 : (Tryd.prog.globals[2]?).map (·.type) = some 62 := by kernel_rfl
theorem g4 : Tryd.prog.globalNamed "pub-convoy/pub/dtls/pkg/protocol/recordlayer.errUnsupportedProtocolVersion" = some 6 := by kernel_rfl
theorem gt4 : (Tryd.prog.globals[6]?).map (·.type) = some 62 := by kernel_rfl
theorem g5 : Tryd.prog.globalNamed "pub-convoy/pub/dtls.errBufferTooSmall" = some 1 := by kernel_rfl
theorem gt5 : (Tryd.prog.globals[1]?).map (·.type) = some 62 := by kernel_rfl
theorem g6 : Tryd.prog.globalNamed "pub-convoy/pub/dtls.errFragmentBufferOverflow" = some 0 := by kernel_rfl
theorem gt6 : (Tryd.prog.globals[0]?).map (·.type) = some 62 := by kernel_rfl
theorem star : "*" ++ "errors.errorString" = "*errors.errorString" := by decide
theorem rowE (u : TypeId) (h : Tryd.prog.typeName? 3 u = some "*errors.errorString") : u = 131 :=
  typeName_ptr_named (nm := "errors.errorString") (by rw [star]; kernel_rfl) (by kernel_rfl) (by decide) u (by rw [star]; exact h)
theorem cE : Tryd.prog.cellsOf 147 = 1 := by kernel_rfl
theorem cS : Tryd.prog.cellsOf 9 = 1 := by kernel_rfl
theorem door_met (os : Os) (args : Array Value) : laidMetH Tryd.prog laidL ((World.doorLaid Tryd.prog 4000 os).forCall (fun _ _ => 0) ⟨#[], args, []⟩).memory :=
  laidMetH_of_parts3 (fuel := 8) (laidMet_of_run' 8 (by kernel_rfl) (by kernel_rfl)) (by kernel_rfl) (by kernel_rfl)

set_option maxRecDepth 100000 in
theorem lifted (os : Os) (started : os.Started) (H : Type) (enc : TypeId × Value → H) :
    ReturnsInHanded {} Tryd.checked os 4 .any (fun w args => (Rows.fnFragmentsOtherSpec.pre enc Tryd.prog Tryd.f4 [] false w args ∧ laidMetH Tryd.prog laidL w) ∧ sizedMet enc Tryd.prog Tryd.f4 (OpenSpec.ofChange Rows.fnFragmentsOtherSpec) false w args)
      (Rows.fnFragmentsOtherSpec.post enc Tryd.prog Tryd.f4 false true false false) := by
  refine returnsInHanded_of_change_and (C := Tryd.checked) (X := fun w _ => laidMetH Tryd.prog laidL w) (fun _ _ _ hh h => h.of_heap hh) own started (by kernel_rfl) Tryd.func4
    (ChangeSpec.witness_shaped (enc := enc) (C := Tryd.checked) (os := os) (X := fun w _ => laidMetH Tryd.prog laidL w) false (World.doorLaid Tryd.prog 4000 os) #[.int .u8 0, .string ByteArray.empty, .agg #[.int .u8 0, .string ByteArray.empty, .slice none 0 0], .int .u16 0] 8 rfl (World.shaped_of_RefB (by kernel_rfl) (by kernel_rfl)) (by kernel_rfl) (by kernel_rfl) (by kernel_rfl) (door_met os _)) ?_
  intro W base args ds gs before hval0 hW _ hsz0 hL _
  have hval : ∀ (j : Nat) t v, Tryd.f4.params[j]? = some t → args[j]? = some v → Value.okWide Tryd.prog W .any base t v := hval0
  have hW' := hW
  obtain ⟨p, q, hA0, hV, rfl, hfz, hnd⟩ := hW
  have hA : DataW.TrodAll enc Tryd.prog W 0 (fun _ => true) true Tryd.f4.params.toList args.toList ds p := hA0
  rw [Tryd.params4] at hA hval
  obtain ⟨v0, vs0, d0, ds0, p0, q0, hargs0, rfl, rfl, h0, r0⟩ := trodAll_cons hA
  obtain ⟨v1, vs1, d1, ds1, p1, q1, hargs1, rfl, rfl, h1, r1⟩ := trodAll_cons r0
  subst hargs1
  obtain ⟨v2, vs2, d2, ds2, p2, q2, hargs2, rfl, rfl, h2, r2⟩ := trodAll_cons r1
  subst hargs2
  obtain ⟨v3, vs3, d3, ds3, p3, q3, hargs3, rfl, rfl, h3, r3⟩ := trodAll_cons r2
  subst hargs3
  obtain ⟨rfl, rfl, rfl⟩ := trodAll_nil r3
  obtain rfl : args = #[v0, v1, v2, v3] := by cases args; simp_all
  obtain ⟨x0, rfl, rfl, rfl, w0⟩ := open_int Tryd.underlying5 (hval 0 5 v0 rfl rfl) h0
  obtain ⟨a1, rfl, rfl, rfl, w1⟩ := open_string Tryd.underlying9 (hval 1 9 v1 rfl rfl) h1
  obtain ⟨l1, rfl⟩ := S_of a1
  obtain ⟨cs2, rfl, hcs2⟩ := okWide_struct Tryd.underlying41 (hval 2 41 v2 rfl rfl)
  obtain ⟨ys2, m2, hf2⟩ := trod_fields Tryd.underlying41 (by kernel_rfl) (by kernel_rfl) h2
  have hk2 : cs2.size = 3 := hcs2.trans (by kernel_rfl)
  obtain ⟨x2_0, e2_0, w2_0⟩ := field_int Tryd.underlying5 (hf2 0 _ rfl)
  obtain ⟨l2_1, e2_1⟩ := field_string Tryd.underlying9 (hf2 1 _ rfl)
  obtain ⟨A2_2, n2_2, c2_2, z2_2, e2_2, hz2_2, hn2_2, hr2_2⟩ := field_ipairs Tryd.underlying22 Tryd.underlying26 (by kernel_rfl) rfl rfl (by kernel_rfl) (by kernel_rfl) Tryd.underlying3 Tryd.underlying3 (hf2 2 _ rfl)
  obtain ⟨x3, rfl, rfl, rfl, w3⟩ := open_int Tryd.underlying42 (hval 3 42 v3 rfl rfl) h3
  clear hA0 hval0
  rw [MakeChecks.laidMetH_plain _ _ _ (by kernel_rfl)] at hL
  have hg0 := pair_cell (k := .u8) (a := 254) (b := 255) hL (List.Mem.head _) g0 gt0 Tryd.underlying108 Tryd.underlying5 Tryd.underlying5 rfl rfl (by kernel_rfl) (by kernel_rfl)
  have hg1 := pair_cell (k := .u8) (a := 254) (b := 253) hL (List.Mem.tail _ (List.Mem.head _)) g1 gt1 Tryd.underlying108 Tryd.underlying5 Tryd.underlying5 rfl rfl (by kernel_rfl) (by kernel_rfl)
  obtain ⟨ad2, hg2⟩ := sentinel_cell (text := [98, 117, 102, 102, 101, 114, 32, 105, 115, 32, 116, 111, 111, 32, 115, 109, 97, 108, 108]) hL (List.Mem.tail _ (List.Mem.tail _ (List.Mem.head _))) g2 gt2 Tryd.underlying62 rowE Tryd.underlying131 Tryd.underlying147 rfl rfl Tryd.underlying9 cE cS
  obtain ⟨ad3, hg3⟩ := sentinel_cell (text := [98, 117, 102, 102, 101, 114, 32, 105, 115, 32, 116, 111, 111, 32, 115, 109, 97, 108, 108]) hL (List.Mem.tail _ (List.Mem.tail _ (List.Mem.tail _ (List.Mem.head _)))) g3 gt3 Tryd.underlying62 rowE Tryd.underlying131 Tryd.underlying147 rfl rfl Tryd.underlying9 cE cS
  obtain ⟨ad4, hg4⟩ := sentinel_cell (text := [117, 110, 115, 117, 112, 112, 111, 114, 116, 101, 100, 32, 112, 114, 111, 116, 111, 99, 111, 108, 32, 118, 101, 114, 115, 105, 111, 110]) hL (List.Mem.tail _ (List.Mem.tail _ (List.Mem.tail _ (List.Mem.tail _ (List.Mem.head _))))) g4 gt4 Tryd.underlying62 rowE Tryd.underlying131 Tryd.underlying147 rfl rfl Tryd.underlying9 cE cS
  obtain ⟨ad5, hg5⟩ := sentinel_cell (text := [98, 117, 102, 102, 101, 114, 32, 105, 115, 32, 116, 111, 111, 32, 115, 109, 97, 108, 108]) hL (List.Mem.tail _ (List.Mem.tail _ (List.Mem.tail _ (List.Mem.tail _ (List.Mem.tail _ (List.Mem.head _)))))) g5 gt5 Tryd.underlying62 rowE Tryd.underlying131 Tryd.underlying147 rfl rfl Tryd.underlying9 cE cS
  obtain ⟨ad6, hg6⟩ := sentinel_cell (text := [102, 114, 97, 103, 109, 101, 110, 116, 32, 98, 117, 102, 102, 101, 114, 32, 111, 118, 101, 114, 102, 108, 111, 119]) hL (List.Mem.tail _ (List.Mem.tail _ (List.Mem.tail _ (List.Mem.tail _ (List.Mem.tail _ (List.Mem.tail _ (List.Mem.head _))))))) g6 gt6 Tryd.underlying62 rowE Tryd.underlying131 Tryd.underlying147 rfl rfl Tryd.underlying9 cE cS
  refine (other_row x0 w0 l1 cs2 hk2 x2_0 e2_0 w2_0 l2_1 e2_1 A2_2 n2_2 c2_2 z2_2 e2_2 hz2_2 hn2_2 W hr2_2 x3 w3 hg0 hg1 ad2 hg2 ad3 hg3 ad4 hg4 ad5 hg5 ad6 hg6).mono fun e W' ⟨he, hb⟩ => ?_
  subst he
  exact ⟨_, rfl, post_below laidOut hW' rfl (by kernel_rfl) rfl Tryd.underlying4 rfl hb⟩

theorem over : Rows.FnFragmentsOtherSaid :=
  OpenClaim.holds_of_wide 4 Tryd.f4 rfl rfl rfl rfl rfl rfl rfl ⟨rfl, rfl, rfl, rfl, rfl⟩ rfl rfl rfl rfl rfl (by kernel_rfl) Tryd.func4 (by kernel_rfl)
    (of_decide_eq_true (by kernel_rfl)) (by unfold Func.isWrapper; first | (rw [if_pos (by decide +kernel)]; kernel_rfl) | (rw [if_neg (by decide +kernel)]; exact ⟨rfl, rfl⟩))
    (fun os started H enc _ => lifted os started H enc)
theorem proved : Rows.FnFragmentsOtherCardSaid :=
  Claim7.holds_tied_plain_at .later [] [.data, .data, .sentinel, .sentinel, .sentinel, .sentinel, .sentinel] true (true, "629dba4b4148a0999971af1dd615ee3be8602a950c532794cae429c9d2a5454d") false
    over (fun _ h => by cases h) (by kernel_rfl) (fun _ h => by cases h) fnFragmentsOther_row_tie rfl ⟨rfl, rfl⟩ (by kernel_rfl) rfl
    (fun f fn hf hfn => by
      obtain rfl : f = 4 := Option.some.inj ((show Tryd.prog.funcNamed "pub-convoy/laws.FnFragmentsOther" = some 4 by kernel_rfl).symm.trans hf) |>.symm
      obtain rfl : fn = Tryd.f4 := (Option.some.inj (Tryd.func4.symm.trans hfn)).symm
      exact ⟨by kernel_rfl, fun j t ht => by
        rw [Tryd.params4] at ht
        have hm : t ∈ [5, 9, 41, 42] := by simpa using Array.mem_of_getElem? ht
        have hall : ([5, 9, 41, 42].all fun u => !Tryd.prog.wantsStandIn u) = true := by kernel_rfl
        exact (show Tryd.prog.wantsStandIn t = false by simpa using List.all_eq_true.1 hall t hm)⟩)
    (by kernel_rfl)
#print axioms proved
end Go.Proofs.YtadblfnggmaadaaDoor.fnFragmentsOther
