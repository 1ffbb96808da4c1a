/- Walks: the additional data of a record with a connection ID: the program's side. -/
import Derived.Test.YtpedkkmoplbdhaaDoorAcid
namespace Go.Proofs.YtpedkkmoplbdhaaDoor
open Go.RowKit Go.Cv
set_option maxRecDepth 100000
set_option linter.unusedVariables false
def recRow (ct maj mn ep sq cl : Nat) (cid : List UInt8) : Array Value := #[.int .u8 (ct : Int), .int .u8 (maj : Int), .int .u8 (mn : Int), .int .u16 (ep : Int), .int .u64 (sq : Int), .int .u16 (cl : Int), .string (S cid)]
def hdRow (ct maj mn ep sq cl : Nat) (A : Option Addr) (n c : Nat) : Array Value := #[.int .u8 (ct : Int), .int .u16 (cl : Int), .int .u8 (maj : Int), .int .u8 (mn : Int), .int .u16 (ep : Int), .int .u64 (sq : Int), .slice A n c]
theorem hdInfo : (Tryd.prog.info? 53).map (·.size) = some 7 := by kernel_rfl
theorem recInfo : (Tryd.prog.info? 25).map (·.size) = some 7 := by kernel_rfl
def acid (maj mn ep sq : Nat) (cid : List UInt8) (m : Nat) : List UInt8 :=
  List.replicate 8 255 ++ be 1 25 ++ be 1 cid.length ++ be 1 25 ++ be 1 maj ++ be 1 mn ++ be 2 ep ++ be 6 sq ++ cid ++ be 2 m
theorem header_any (ct maj mn ep sq cl : Nat) (cid : List UInt8) (hn : cid.length ≤ 255) (w : World) :
    Calls Tryd.prog 50 #[.agg (recRow ct maj mn ep sq cl cid)] w fun e w' => ∃ A c, e = .returned (.agg (hdRow ct maj mn ep sq cl A cid.length c)) ∧ Rd w' A (vs cid) ∧ Below w.heap.size w w' := by
  unfold recRow
  go_enter Tryd.func50, Tryd.ntmps50
  go_wp2_with fail
  refine upon_conv_sb 9 51 5 Tryd.underlying9 Tryd.underlying51 Tryd.underlying5 cid (by simp only [maxLen]; omega) ?_
  intro c w1 hown hb hlt
  have hk1 := (Blk.new (w.alloc (.cells (recRow ct maj mn ep sq cl cid) 25)) 53 _).keep hb
  have hrd := hown.rd
  have hlt1 := hb.size
  simp only [World.size_alloc] at hk1 hrd hlt1
  have HR := Lib.hid hrd
  have HZ : Hid (w.heap.size + 1 + 1 ≤ w1.heap.size) := hlt1
  have HB : Hid (Below w.heap.size w w1) := below_two (below_two (below_alloc _ _) (below_alloc _ _)) hb
  have HK := Lib.hid hk1
  clear hown hb hlt hk1 hrd hlt1
  go_wp2_with (with_reducible refine Held.store 53 ?_)
  refine held_store_row (cells := hdRow ct maj mn ep sq cl _ cid.length c) HK.out hdInfo rfl rfl rfl (by simp [hdRow, Value.oneCell']) fun w2 hk hg _ => ?_
  go_wp2_with fail
  refine bodyPost_cell rfl rfl rfl hk Tryd.underlying53 hdInfo ⟨_, _, rfl, ?_, ?_⟩
  · exact HR.out.tch (Tch.grown hg) (by simp)
  · exact HB.out.grown hg (by have := HZ.out; omega) (fun k hk' => by simp at hk'; omega)
theorem gen_any (g : Nat) (ct maj mn ep sq cl : Nat) (cid : List UInt8) (A : Option Addr) (c : Nat) (m : Nat) (hn : cid.length ≤ 255) (hmaj : (maj : Int) < 256) (hmn : (mn : Int) < 256) (hep : (ep : Int) < 65536) (hm : (m : Int) < 65536)
    (w : World) (hg : Blk w g 53 (hdRow ct maj mn ep sq cl A cid.length c)) (hr : Rd w A (vs cid)) :
    Calls Tryd.prog 54 #[.pointer (some ⟨g, 0, none⟩), .int .i64 m] w fun e w' => ∃ A' n' c', e = .returned (.slice A' n' c') ∧ (acid maj mn ep sq cid m).length = n' ∧ Rd w' A' (vs (acid maj mn ep sq cid m)) ∧ Below w.heap.size w w' := by
  have hglt := hg.lt
  obtain ⟨n, hL⟩ : ∃ n, cid.length = n := ⟨_, rfl⟩
  rw [hL] at hg hn
  have e8 : IntKind.u8.wrap (n : Int) = (n : Int) := by rw [IntKind.wrap_u8]; omega
  have e16 : IntKind.u16.wrap (m : Int) = (m : Int) := by rw [IntKind.wrap_u16]; omega
  have n255 : (n : Int) < 256 := by omega
  have HL : Hid (cid.length = n) := hL
  have HG := Lib.hid hg
  have HR := Lib.hid hr
  have HN : Hid (n ≤ 255 ∧ (maj : Int) < 256 ∧ (mn : Int) < 256 ∧ (ep : Int) < 65536 ∧ (m : Int) < 65536 ∧ (n : Int) < 256) := ⟨hn, hmaj, hmn, hep, hm, n255⟩
  have HT : Hid (g < w.heap.size) := hglt
  clear hg hr hn hmaj hmn hep hm hglt n255 hL
  go_enter Tryd.func54, Tryd.ntmps54
  go_wp2_with fail
  have B0 : Hid (Bld (w.alloc (.cells (bldRow none 0 0) 150)) w.heap.size []) := ⟨none, 0, Blk.new _ _ _, Own.nil _ _ _, .inl rfl⟩
  refine (addOnes_any w.heap.size [] (by simp) _ B0.out).mono ?_
  rintro e w1 ⟨rfl, h1, b1⟩
  have H1 := Lib.hid h1
  have T1 : Hid (Below w.heap.size w w1) := (below_alloc _ _).trans b1
  clear h1 b1 B0
  go_wp2_with fail
  refine (add8_any w.heap.size _ 25 (by omega) (by simp) _ H1.out).mono ?_
  rintro e w2 ⟨rfl, h2, b2⟩
  have H2 := Lib.hid h2
  have T2 : Hid (Below w.heap.size w w2) := T1.out.trans b2
  have k2 := HG.out.below T2.out HT.out
  have q2 := k2.cell 6
  simp [hdRow] at q2
  clear h2 b2 H1 T1 k2
  go_wp2_with fail
  refine (add8_any w.heap.size _ n HN.out.2.2.2.2.2 (by simp [be_length]) _ H2.out).mono ?_
  rintro e w3 ⟨rfl, h3, b3⟩
  have H3 := Lib.hid h3
  have T3 : Hid (Below w.heap.size w w3) := T2.out.trans b3
  clear h3 b3 H2 T2 q2
  go_wp2_with fail
  refine (add8_any w.heap.size _ 25 (by omega) (by simp [be_length]) _ H3.out).mono ?_
  rintro e w4 ⟨rfl, h4, b4⟩
  have H4 := Lib.hid h4
  have T4 : Hid (Below w.heap.size w w4) := T3.out.trans b4
  have k4 := HG.out.below T4.out HT.out
  have q4 := k4.cell 2
  simp [hdRow] at q4
  clear h4 b4 H3 T3 k4
  go_wp2_with fail
  refine (add8_any w.heap.size _ maj HN.out.2.1 (by simp [be_length]) _ H4.out).mono ?_
  rintro e w5 ⟨rfl, h5, b5⟩
  have H5 := Lib.hid h5
  have T5 : Hid (Below w.heap.size w w5) := T4.out.trans b5
  have k5 := HG.out.below T5.out HT.out
  have q5 := k5.cell 3
  simp [hdRow] at q5
  clear h5 b5 H4 T4 k5 q4
  go_wp2_with fail
  refine (add8_any w.heap.size _ mn HN.out.2.2.1 (by simp [be_length]) _ H5.out).mono ?_
  rintro e w6 ⟨rfl, h6, b6⟩
  have H6 := Lib.hid h6
  have T6 : Hid (Below w.heap.size w w6) := T5.out.trans b6
  have k6 := HG.out.below T6.out HT.out
  have q6 := k6.cell 4
  simp [hdRow] at q6
  clear h6 b6 H5 T5 k6 q5
  go_wp2_with fail
  refine (add16_any w.heap.size _ ep HN.out.2.2.2.1 (by simp [be_length]) _ H6.out).mono ?_
  rintro e w7 ⟨rfl, h7, b7⟩
  have H7 := Lib.hid h7
  have T7 : Hid (Below w.heap.size w w7) := T6.out.trans b7
  have k7 := HG.out.below T7.out HT.out
  have q7 := k7.cell 5
  simp [hdRow] at q7
  clear h7 b7 H6 T6 k7 q6
  go_wp2_with fail
  refine (add48_any w.heap.size _ sq (by simp [be_length]) _ H7.out).mono ?_
  rintro e w8 ⟨rfl, h8, b8⟩
  have H8 := Lib.hid h8
  have T8 : Hid (Below w.heap.size w w8) := T7.out.trans b8
  have k8 := HG.out.below T8.out HT.out
  have q8 := k8.cell 6
  simp [hdRow] at q8
  clear h8 b8 H7 T7 k8 q7
  go_wp2_with fail
  refine (addBytes_any w.heap.size _ cid A n c HL.out (by have := HN.out.1; simp [be_length]; omega) _ H8.out (HR.out.keep T8.out)).mono ?_
  rintro e w9 ⟨rfl, h9, b9⟩
  have H9 := Lib.hid h9
  have T9 : Hid (Below w.heap.size w w9) := T8.out.trans b9
  clear h9 b9 H8 T8 q8
  go_wp2_with fail
  refine (add16_any w.heap.size _ m HN.out.2.2.2.2.1 (by have := HN.out.1; have := HL.out; simp [be_length]; omega) _ H9.out).mono ?_
  rintro e w10 ⟨rfl, h10, b10⟩
  have H10 := Lib.hid h10
  have T10 : Hid (Below w.heap.size w w10) := T9.out.trans b10
  clear h10 b10 H9 T9
  go_wp2_with fail
  have HE : Hid ([] ++ List.replicate 8 255 ++ be 1 25 ++ be 1 n ++ be 1 25 ++ be 1 maj ++ be 1 mn ++ be 2 ep ++ be 6 sq ++ cid ++ be 2 m = acid maj mn ep sq cid m) := by
    show _ = _
    rw [acid, HL.out, List.nil_append]
  have h := H10.out
  rw [HE.out] at h
  refine (bytes_any w.heap.size _ (by have := HN.out.1; have := HL.out; simp [acid, be_length]; omega) _ h).mono ?_
  rintro e w11 ⟨A', n', c', rfl, hn', hr', b11⟩
  go_wp2_with fail
  go_ret
  exact ⟨_, _, _, rfl, hn', hr', T10.out.trans (b11.mono T10.out.size)⟩
end Go.Proofs.YtpedkkmoplbdhaaDoor
