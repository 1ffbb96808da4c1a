/- FnCbcRoad: what is sealed by cipher block chaining, with any initial vector and any padding, is opened, and is what it was; no condition. -/
import Derived.Test.YtpedkkmoplbdhaaDoorRows
import Derived.Test.YtpedkkmoplbdhaaDoorCards
import Derived.Test.YtpedkkmoplbdhaaDoorTie
import Derived.SevenTiedAt
import Derived.Test.YtpedkkmoplbdhaaDoorBase
import Derived.Test.YtpedkkmoplbdhaaDoorBlaw
namespace Go.Proofs.YtpedkkmoplbdhaaDoor.fnCbcRoad
open Go.ChangeShapes Go.WideShapes Go.ChangeAt Go.RowKit Go.Cv
open Go.ChangeMaps (open_string shut_string)
set_option linter.unusedVariables false

theorem own : ownKnob Tryd.prog.godebug = none := by kernel_rfl
theorem laidOut : laidOutB Tryd.prog = true := by kernel_rfl
def laidL : List (String × DataW Unit) := [("pub-convoy/pub/dtls/pkg/protocol.Version1_0", Rows.laid_pub_convoy_pub_dtls_pkg_protocol_Version1_0), ("pub-convoy/pub/dtls/pkg/protocol.Version1_2", Rows.laid_pub_convoy_pub_dtls_pkg_protocol_Version1_2), ("pub-convoy/pub/dtls/pkg/protocol/recordlayer.errBufferTooSmall", Rows.laid_pub_convoy_pub_dtls_pkg_protocol_recordlayer_errBufferTooSmall), ("pub-convoy/pub/dtls/pkg/protocol/recordlayer.errSequenceNumberOverflow", Rows.laid_pub_convoy_pub_dtls_pkg_protocol_recordlayer_errSequenceNumberOverflow), ("pub-convoy/pub/dtls/pkg/protocol/recordlayer.errUnsupportedProtocolVersion", Rows.laid_pub_convoy_pub_dtls_pkg_protocol_recordlayer_errUnsupportedProtocolVersion), ("pub-convoy/pub/dtls/pkg/crypto/ciphersuite.errNotEnoughRoomForNonce", Rows.laid_pub_convoy_pub_dtls_pkg_crypto_ciphersuite_errNotEnoughRoomForNonce), ("pub-convoy/pub/dtls/pkg/crypto/ciphersuite.errInvalidMAC", Rows.laid_pub_convoy_pub_dtls_pkg_crypto_ciphersuite_errInvalidMAC)]
theorem g0 : Tryd.prog.globalNamed "pub-convoy/pub/dtls/pkg/protocol.Version1_0" = some 9 := by kernel_rfl
theorem gt0 : (Tryd.prog.globals[9]?).map (·.type) = some 50 := by kernel_rfl
theorem g1 : Tryd.prog.globalNamed "pub-convoy/pub/dtls/pkg/protocol.Version1_2" = some 10 := by kernel_rfl
theorem gt1 : (Tryd.prog.globals[10]?).map (·.type) = some 50 := by kernel_rfl
theorem g2 : Tryd.prog.globalNamed "pub-convoy/pub/dtls/pkg/protocol/recordlayer.errBufferTooSmall" = some 8 := by kernel_rfl
theorem gt2 : (Tryd.prog.globals[8]?).map (·.type) = some 57 := by kernel_rfl
theorem g3 : Tryd.prog.globalNamed "pub-convoy/pub/dtls/pkg/protocol/recordlayer.errSequenceNumberOverflow" = some 3 := by kernel_rfl
theorem gt3 : (Tryd.prog.globals[3]?).map (·.type) = some 57 := by kernel_rfl
theorem g4 : Tryd.prog.globalNamed "pub-convoy/pub/dtls/pkg/protocol/recordlayer.errUnsupportedProtocolVersion" = some 11 := by kernel_rfl
theorem gt4 : (Tryd.prog.globals[11]?).map (·.type) = some 57 := by kernel_rfl
theorem g5 : Tryd.prog.globalNamed "pub-convoy/pub/dtls/pkg/crypto/ciphersuite.errNotEnoughRoomForNonce" = some 1 := by kernel_rfl
theorem gt5 : (Tryd.prog.globals[1]?).map (·.type) = some 57 := by kernel_rfl
theorem g6 : Tryd.prog.globalNamed "pub-convoy/pub/dtls/pkg/crypto/ciphersuite.errInvalidMAC" = some 2 := by kernel_rfl
theorem gt6 : (Tryd.prog.globals[2]?).map (·.type) = some 57 := by kernel_rfl
theorem star : "*" ++ "errors.errorString" = "*errors.errorString" := by decide
theorem rowE (u : TypeId) (h : Tryd.prog.typeName? 3 u = some "*errors.errorString") : u = 187 :=
  typeName_ptr_named (nm := "errors.errorString") (by rw [star]; kernel_rfl) (by kernel_rfl) (by decide) u (by rw [star]; exact h)
theorem cE : Tryd.prog.cellsOf 189 = 1 := by kernel_rfl
theorem cS : Tryd.prog.cellsOf 9 = 1 := by kernel_rfl
theorem door_met (os : Os) (args : Array Value) : laidMetH Tryd.prog laidL ((World.doorLaid Tryd.prog 4000 os).forCall (fun _ _ => 0) ⟨#[], args, []⟩).memory :=
  laidMetH_of_parts3 (fuel := 8) (laidMet_of_run' 8 (by kernel_rfl) (by kernel_rfl)) (by kernel_rfl) (by kernel_rfl)

set_option maxRecDepth 100000 in
theorem lifted (os : Os) (started : os.Started) (H : Type) (enc : TypeId × Value → H) :
    ReturnsInHanded {} Tryd.checked os 6 .any (fun w args => (Rows.fnCbcRoadSpec.pre enc Tryd.prog Tryd.f6 [] false w args ∧ laidMetH Tryd.prog laidL w) ∧ sizedMet enc Tryd.prog Tryd.f6 (OpenSpec.ofChange Rows.fnCbcRoadSpec) false w args)
      (Rows.fnCbcRoadSpec.post enc Tryd.prog Tryd.f6 false true false false) := by
  refine returnsInHanded_of_change_and (C := Tryd.checked) (X := fun w _ => laidMetH Tryd.prog laidL w) (fun _ _ _ hh h => h.of_heap hh) own started (by kernel_rfl) Tryd.func6
    (ChangeSpec.witness_shaped (enc := enc) (C := Tryd.checked) (os := os) (X := fun w _ => laidMetH Tryd.prog laidL w) false (World.doorLaid Tryd.prog 4000 os) #[.string ByteArray.empty, .string ByteArray.empty, .string ByteArray.empty, .int .i64 0, .agg #[.int .u8 0, .int .u8 0, .int .u8 0, .int .u16 0, .int .u64 0, .int .u16 0, .string ByteArray.empty], .string ByteArray.empty, .int .i64 0] 8 rfl (World.shaped_of_RefB (by kernel_rfl) (by kernel_rfl)) (by kernel_rfl) (by kernel_rfl) (by kernel_rfl) (door_met os _)) ?_
  intro W base args ds gs before hval0 hW _ hsz0 hL _
  have hval : ∀ (j : Nat) t v, Tryd.f6.params[j]? = some t → args[j]? = some v → Value.okWide Tryd.prog W .any base t v := hval0
  have hW' := hW
  obtain ⟨p, q, hA0, hV, rfl, hfz, hnd⟩ := hW
  have hA : DataW.TrodAll enc Tryd.prog W 0 (fun _ => true) true Tryd.f6.params.toList args.toList ds p := hA0
  rw [Tryd.params6] at hA hval
  obtain ⟨v0, vs0, d0, ds0, p0, q0, hargs0, rfl, rfl, h0, r0⟩ := trodAll_cons hA
  obtain ⟨v1, vs1, d1, ds1, p1, q1, hargs1, rfl, rfl, h1, r1⟩ := trodAll_cons r0
  subst hargs1
  obtain ⟨v2, vs2, d2, ds2, p2, q2, hargs2, rfl, rfl, h2, r2⟩ := trodAll_cons r1
  subst hargs2
  obtain ⟨v3, vs3, d3, ds3, p3, q3, hargs3, rfl, rfl, h3, r3⟩ := trodAll_cons r2
  subst hargs3
  obtain ⟨v4, vs4, d4, ds4, p4, q4, hargs4, rfl, rfl, h4, r4⟩ := trodAll_cons r3
  subst hargs4
  obtain ⟨v5, vs5, d5, ds5, p5, q5, hargs5, rfl, rfl, h5, r5⟩ := trodAll_cons r4
  subst hargs5
  obtain ⟨v6, vs6, d6, ds6, p6, q6, hargs6, rfl, rfl, h6, r6⟩ := trodAll_cons r5
  subst hargs6
  obtain ⟨rfl, rfl, rfl⟩ := trodAll_nil r6
  obtain rfl : args = #[v0, v1, v2, v3, v4, v5, v6] := by cases args; simp_all
  obtain ⟨a0, rfl, rfl, rfl, w0⟩ := open_string Tryd.underlying9 (hval 0 9 v0 rfl rfl) h0
  obtain ⟨l0, rfl⟩ := S_of a0
  obtain ⟨a1, rfl, rfl, rfl, w1⟩ := open_string Tryd.underlying9 (hval 1 9 v1 rfl rfl) h1
  obtain ⟨l1, rfl⟩ := S_of a1
  obtain ⟨a2, rfl, rfl, rfl, w2⟩ := open_string Tryd.underlying9 (hval 2 9 v2 rfl rfl) h2
  obtain ⟨l2, rfl⟩ := S_of a2
  obtain ⟨x3, rfl, rfl, rfl, w3⟩ := open_int Tryd.underlying3 (hval 3 3 v3 rfl rfl) h3
  obtain ⟨cs4, rfl, hcs4⟩ := okWide_struct Tryd.underlying25 (hval 4 25 v4 rfl rfl)
  obtain ⟨ys4, m4, hf4⟩ := trod_fields Tryd.underlying25 (by kernel_rfl) (by kernel_rfl) h4
  have hk4 : cs4.size = 7 := hcs4.trans (by kernel_rfl)
  obtain ⟨x4_0, e4_0, w4_0⟩ := field_int Tryd.underlying5 (hf4 0 _ rfl)
  obtain ⟨x4_1, e4_1, w4_1⟩ := field_int Tryd.underlying5 (hf4 1 _ rfl)
  obtain ⟨x4_2, e4_2, w4_2⟩ := field_int Tryd.underlying5 (hf4 2 _ rfl)
  obtain ⟨x4_3, e4_3, w4_3⟩ := field_int Tryd.underlying22 (hf4 3 _ rfl)
  obtain ⟨x4_4, e4_4, w4_4⟩ := field_int Tryd.underlying23 (hf4 4 _ rfl)
  obtain ⟨x4_5, e4_5, w4_5⟩ := field_int Tryd.underlying22 (hf4 5 _ rfl)
  obtain ⟨l4_6, e4_6⟩ := field_string Tryd.underlying9 (hf4 6 _ rfl)
  obtain ⟨a5, rfl, rfl, rfl, w5⟩ := open_string Tryd.underlying9 (hval 5 9 v5 rfl rfl) h5
  obtain ⟨l5, rfl⟩ := S_of a5
  obtain ⟨x6, rfl, rfl, rfl, w6⟩ := open_int Tryd.underlying3 (hval 6 3 v6 rfl rfl) h6
  clear hA0 hval0
  rw [MakeChecks.laidMetH_plain _ _ _ (by kernel_rfl)] at hL
  have hg0 := pair_cell (k := .u8) (a := 254) (b := 255) hL (List.Mem.head _) g0 gt0 Tryd.underlying50 Tryd.underlying5 Tryd.underlying5 rfl rfl (by kernel_rfl) (by kernel_rfl)
  have hg1 := pair_cell (k := .u8) (a := 254) (b := 253) hL (List.Mem.tail _ (List.Mem.head _)) g1 gt1 Tryd.underlying50 Tryd.underlying5 Tryd.underlying5 rfl rfl (by kernel_rfl) (by kernel_rfl)
  obtain ⟨ad2, hg2⟩ := sentinel_cell (text := [98, 117, 102, 102, 101, 114, 32, 105, 115, 32, 116, 111, 111, 32, 115, 109, 97, 108, 108]) hL (List.Mem.tail _ (List.Mem.tail _ (List.Mem.head _))) g2 gt2 Tryd.underlying57 rowE Tryd.underlying187 Tryd.underlying189 rfl rfl Tryd.underlying9 cE cS
  obtain ⟨ad3, hg3⟩ := sentinel_cell (text := [115, 101, 113, 117, 101, 110, 99, 101, 32, 110, 117, 109, 98, 101, 114, 32, 111, 118, 101, 114, 102, 108, 111, 119]) hL (List.Mem.tail _ (List.Mem.tail _ (List.Mem.tail _ (List.Mem.head _)))) g3 gt3 Tryd.underlying57 rowE Tryd.underlying187 Tryd.underlying189 rfl rfl Tryd.underlying9 cE cS
  obtain ⟨ad4, hg4⟩ := sentinel_cell (text := [117, 110, 115, 117, 112, 112, 111, 114, 116, 101, 100, 32, 112, 114, 111, 116, 111, 99, 111, 108, 32, 118, 101, 114, 115, 105, 111, 110]) hL (List.Mem.tail _ (List.Mem.tail _ (List.Mem.tail _ (List.Mem.tail _ (List.Mem.head _))))) g4 gt4 Tryd.underlying57 rowE Tryd.underlying187 Tryd.underlying189 rfl rfl Tryd.underlying9 cE cS
  obtain ⟨ad5, hg5⟩ := sentinel_cell (text := [98, 117, 102, 102, 101, 114, 32, 110, 111, 116, 32, 108, 111, 110, 103, 32, 101, 110, 111, 117, 103, 104, 32, 116, 111, 32, 99, 111, 110, 116, 97, 105, 110, 32, 110, 111, 110, 99, 101]) hL (List.Mem.tail _ (List.Mem.tail _ (List.Mem.tail _ (List.Mem.tail _ (List.Mem.tail _ (List.Mem.head _)))))) g5 gt5 Tryd.underlying57 rowE Tryd.underlying187 Tryd.underlying189 rfl rfl Tryd.underlying9 cE cS
  obtain ⟨ad6, hg6⟩ := sentinel_cell (text := [105, 110, 118, 97, 108, 105, 100, 32, 109, 97, 99]) hL (List.Mem.tail _ (List.Mem.tail _ (List.Mem.tail _ (List.Mem.tail _ (List.Mem.tail _ (List.Mem.tail _ (List.Mem.head _))))))) g6 gt6 Tryd.underlying57 rowE Tryd.underlying187 Tryd.underlying189 rfl rfl Tryd.underlying9 cE cS
  refine (cb_row l0 l1 l2 x3 w3 cs4 hk4 x4_0 e4_0 w4_0 x4_1 e4_1 w4_1 x4_2 e4_2 w4_2 x4_3 e4_3 w4_3 x4_4 e4_4 w4_4 x4_5 e4_5 w4_5 l4_6 e4_6 l5 x6 w6 W hg0 hg1 ad2 hg2 ad3 hg3 ad4 hg4 ad5 hg5 ad6 hg6).mono fun e W' ⟨he, hb⟩ => ?_
  subst he
  exact ⟨_, rfl, post_below laidOut hW' rfl (by kernel_rfl) rfl Tryd.underlying4 rfl hb⟩

theorem over : Rows.FnCbcRoadSaid :=
  OpenClaim.holds_of_wide 6 Tryd.f6 rfl rfl rfl rfl rfl rfl rfl ⟨rfl, rfl, rfl, rfl, rfl⟩ rfl rfl rfl rfl rfl (by kernel_rfl) Tryd.func6 (by kernel_rfl)
    (of_decide_eq_true (by kernel_rfl)) (by unfold Func.isWrapper; first | (rw [if_pos (by decide +kernel)]; kernel_rfl) | (rw [if_neg (by decide +kernel)]; exact ⟨rfl, rfl⟩))
    (fun os started H enc _ => lifted os started H enc)
theorem proved : Rows.FnCbcRoadCardSaid :=
  Claim7.holds_tied_plain_at .later [] [.data, .data, .sentinel, .sentinel, .sentinel, .sentinel, .sentinel] true (true, "d53b80530fca991b372febf8a60147cea808990a91a0cf21705c739f67ff2c28") true
    over (fun _ h => by cases h) (by kernel_rfl) (fun _ h => by cases h) fnCbcRoad_row_tie rfl ⟨rfl, rfl⟩ (by kernel_rfl) rfl
    (fun f fn hf hfn => by
      obtain rfl : f = 6 := Option.some.inj ((show Tryd.prog.funcNamed "pub-convoy/laws.FnCbcRoad" = some 6 by kernel_rfl).symm.trans hf) |>.symm
      obtain rfl : fn = Tryd.f6 := (Option.some.inj (Tryd.func6.symm.trans hfn)).symm
      exact ⟨by kernel_rfl, fun j t ht => by
        rw [Tryd.params6] at ht
        have hm : t ∈ [9, 9, 9, 3, 25, 9, 3] := by simpa using Array.mem_of_getElem? ht
        have hall : ([9, 9, 9, 3, 25, 9, 3].all fun u => !Tryd.prog.wantsStandIn u) = true := by kernel_rfl
        exact (show Tryd.prog.wantsStandIn t = false by simpa using List.all_eq_true.1 hall t hm)⟩)
    (by kernel_rfl)
#print axioms proved
end Go.Proofs.YtpedkkmoplbdhaaDoor.fnCbcRoad
