/- Walks: a record's header, read and written as the library has it. -/
import Derived.Test.YtmappdbodnlepaaDoorHdrU2
namespace Go.Proofs.YtmappdbodnlepaaDoor
open Go.RowKit Go.Cv
set_option maxRecDepth 100000
set_option linter.unusedVariables false
def recN (ct ep sq cl : Nat) (cid : List UInt8) : Array Value := #[.int .u8 (ct : Int), .int .u8 254, .int .u8 253, .int .u16 (ep : Int), .int .u64 (sq : Int), .int .u16 (cl : Int), .string (S cid)]
theorem recN_eq (ct : UInt8) (ep sq cl : Nat) (cid : List UInt8) : recN ct.toNat ep sq cl cid = recRow ct 254 253 ep sq cl cid := rfl
theorem be2_two (m : Nat) (h : m < 65536) : ∃ a b, be 2 m = [a, b] ∧ a.toNat * 256 + b.toNat = m :=
  ⟨UInt8.ofNat (m / 256), UInt8.ofNat m, by simp [be], by rw [UInt8.toNat_ofNat', UInt8.toNat_ofNat']; omega⟩
theorem be6_six (m : Nat) (h : m < 281474976710656) : ∃ a b c d e f, be 6 m = [a, b, c, d, e, f] ∧ m = (0 : UInt8).toNat * 72057594037927936 + ((0 : UInt8).toNat * 281474976710656 + (a.toNat * 1099511627776 + (b.toNat * 4294967296 + (c.toNat * 16777216 + (d.toNat * 65536 + (e.toNat * 256 + f.toNat)))))) :=
  ⟨UInt8.ofNat (m / 1099511627776), UInt8.ofNat (m / 4294967296), UInt8.ofNat (m / 16777216), UInt8.ofNat (m / 65536), UInt8.ofNat (m / 256), UInt8.ofNat m, by simp [be], by
    rw [UInt8.toNat_ofNat', UInt8.toNat_ofNat', UInt8.toNat_ofNat', UInt8.toNat_ofNat', UInt8.toNat_ofNat', UInt8.toNat_ofNat']
    show m = 0 * 72057594037927936 + (0 * 281474976710656 + _)
    omega⟩
theorem hdIn_of {w : World} {b : Nat} {ct e1 e2 s1 s2 s3 s4 s5 s6 : UInt8} {cid t l : List UInt8} (hl : l = ct :: 254 :: 253 :: e1 :: e2 :: s1 :: s2 :: s3 :: s4 :: s5 :: s6 :: (cid ++ t)) (hr : Rd w (some ⟨b, 0, none⟩) (vs l)) : HdIn w b l ct e1 e2 s1 s2 s3 s4 s5 s6 cid := by
  subst hl
  have h0 := hr.byte 0 (by simp)
  have h1 := hr.byte 1 (by simp)
  have h2 := hr.byte 2 (by simp)
  have h3 := hr.byte 3 (by simp)
  have h4 := hr.byte 4 (by simp)
  have h5 := Rd.part hr 5 6
  have h11 := Rd.part hr 11 cid.length
  simp at h0 h1 h2 h3 h4 h5 h11
  exact ⟨h0, h1, h2, h3, h4, h5, h11⟩
theorem headerData_any (ct e s n c : Nat) (A : Option Addr) (cid : List UInt8) (hn : cid.length = n) (w : World) (hr : Rd w A (vs cid)) :
    Calls Tryd.prog 29 #[.agg (hr1 ct e s A n c)] w fun e' w' => e' = .returned (.agg (recN ct e s 0 cid)) ∧ Below w.heap.size w w' := by
  have hr1' := (hr.keep (below_alloc w (.cells (hr1 ct e s A n c) 66)))
  have hr2 := hr1'.keep (below_alloc (w.alloc (.cells (hr1 ct e s A n c) 66)) (.cells #[.int .u8 0, .int .u8 0, .int .u8 0, .int .u16 0, .int .u64 0, .int .u16 0, .string (S [])] 25))
  unfold hr1 at *
  go_enter Tryd.func29, Tryd.ntmps29
  go_wp2_with fail
  refine upon_conv_bs 39 9 5 Tryd.underlying39 Tryd.underlying5 Tryd.underlying9 cid A n c hn hr2 ?_
  clear hr hr1' hr2
  go_wp2_with (with_reducible refine Held.store 25 ?_)
  refine held_store_at (g := w.heap.size + 1) (by simp) (cells := recN ct e s 0 cid) recInfo rfl rfl rfl (by simp [recN, Value.oneCell']) fun w1 hm hb' hsz => ?_
  go_wp2_with fail
  exact bodyPost_cell rfl rfl rfl hm Tryd.underlying25 recInfo ⟨rfl, below_two (below_alloc w _) hb'⟩
/-- A header is read, with its connection ID or without. -/
theorem unmHd_any (ct : UInt8) (cid t : List UInt8) (ep sq n N : Nat) (l : List UInt8) (cl : Nat) (hl : l = hdOut ct 254 253 ep sq cl cid ++ t) (hep : ep < 65536) (hsq : sq < 281474976710656) (hn : cid.length = n) (hn3 : (n : Int) ≤ 2147483647) (hc : ct.toNat = 25 ∨ cid = []) (hN : l.length = N)
    (g b c a0 c0 : Nat) (hNc : N ≤ c) (w : World) (hk : Blk w g 66 (hr0 (some ⟨a0, 0, none⟩) n c0)) (hr : Rd w (some ⟨b, 0, none⟩) (vs l)) (hgb : g ≠ b)
    (v0 : w.cell? ⟨3, 0, none⟩ = some (.int .u8 254) ∧ w.cell? ⟨3, 1, none⟩ = some (.int .u8 255)) (v2 : w.cell? ⟨4, 0, none⟩ = some (.int .u8 254) ∧ w.cell? ⟨4, 1, none⟩ = some (.int .u8 253)) (hg0 : g ≠ 3) (hg2 : g ≠ 4) :
    Calls Tryd.prog 28 #[.pointer (some ⟨g, 0, none⟩), .slice (some ⟨b, 0, none⟩) N c] w fun e' w' =>
      ∃ A cA, e' = .returned .nilIface ∧ Blk w' g 66 (hr1 ct.toNat ep sq A n cA) ∧ Rd w' A (vs cid) ∧ w.grownBy w' (some g) := by
  obtain ⟨e1, e2, hbe, he⟩ := be2_two ep hep
  obtain ⟨s1, s2, s3, s4, s5, s6, hbs, hs⟩ := be6_six sq hsq
  have hl2 : l = ct :: 254 :: 253 :: e1 :: e2 :: s1 :: s2 :: s3 :: s4 :: s5 :: s6 :: (cid ++ (be 2 cl ++ t)) := by rw [hl, hdOut, hbe, hbs]; simp
  have hin := hdIn_of hl2 hr
  have hNn : 13 + n ≤ N := by rw [← hN, hl, List.length_append, hdOut_length, hn]; omega
  by_cases h25 : ct.toNat = 25
  · refine (unmHd_cid g b n c N a0 c0 l ct e1 e2 s1 s2 s3 s4 s5 s6 cid ep sq (by simp [h25]) he hs hn hn3 hNn hNc w hk hin hgb v0 v2 hg0 hg2).mono ?_
    rintro e' w' ⟨rfl, hk', hg'⟩
    exact ⟨_, _, rfl, hk', hin.r11.tch (Tch.grown hg') (by simpa using fun h => hgb h.symm), hg'⟩
  · have hcid : cid = [] := by rcases hc with h | h; exact absurd h h25; exact h
    refine (unmHd_plain g b n c N a0 c0 l ct e1 e2 s1 s2 s3 s4 s5 s6 cid ep sq (by simp; omega) h25 he hs hn hn3 (by omega) hNc w hk hin hgb v0 v2 hg0 hg2).mono ?_
    rintro e' w' ⟨rfl, hk', hg'⟩
    exact ⟨_, _, rfl, hk', .inl (by rw [hcid]; rfl), hg'⟩
set_option maxHeartbeats 1000000 in
theorem headerRead_any (ct : UInt8) (cid t : List UInt8) (ep sq n : Nat) (l : List UInt8) (cl : Nat) (hl : l = hdOut ct 254 253 ep sq cl cid ++ t) (hep : ep < 65536) (hsq : sq < 281474976710656) (hn : cid.length = n) (hn3 : (n : Int) ≤ 2147483647) (hc : ct.toNat = 25 ∨ cid = []) (hlm : l.length ≤ maxLen) (w : World)
    (v0 : w.cell? ⟨3, 0, none⟩ = some (.int .u8 254) ∧ w.cell? ⟨3, 1, none⟩ = some (.int .u8 255)) (v2 : w.cell? ⟨4, 0, none⟩ = some (.int .u8 254) ∧ w.cell? ⟨4, 1, none⟩ = some (.int .u8 253)) :
    Calls Tryd.prog 10 #[.string (S l), .int .i64 (n : Int)] w fun e' w' => e' = .returned (.tuple #[.agg (recN ct.toNat ep sq 0 cid), .bool true]) ∧ Below w.heap.size w w' := by
  have HC := Lib.hid (fun g b c a0 c0 hNc w hk hr hgb v0 v2 hg0 hg2 => unmHd_any ct cid t ep sq n l.length l cl hl hep hsq hn hn3 hc rfl g b c a0 c0 hNc w hk hr hgb v0 v2 hg0 hg2)
  have hw0 := block_lt v0.1
  have hw2 := block_lt v2.1
  have HV := Lib.hid (And.intro v0 v2)
  have HN := Lib.hid hn
  have HN3 := Lib.hid hn3
  have HLM := Lib.hid hlm
  have HW := Lib.hid (And.intro hw0 hw2)
  clear hl hep hsq hn hn3 hc hlm v0 v2 hw0 hw2
  go_enter Tryd.func10, Tryd.ntmps10
  go_wp2_with fail
  refine upon_make 39 5 (.int .u8 0) 1 Tryd.underlying39 u8info rfl n n rfl rfl (Nat.le_refl _) (by have := HN3.out; omega) (by have := HN3.out; simp only [maxLen]; omega) ?_
  intro w1 hown hb1 hsz
  have hM := (Blk.new w 25 _).keep hb1
  have hT1 := below_two (below_alloc w _) hb1
  have HM := Lib.hid hM
  have HT1 := Lib.hid hT1
  have HS1 : Hid (w.heap.size + 1 ≤ w1.heap.size) := Lib.hid (by have := hb1.size; simpa using this)
  clear hown hb1 hsz hM hT1
  go_wp2_with (with_reducible refine Held.store 66 ?_)
  refine held_store_new (cells := hr0 (some ⟨w.heap.size + 1, 0, none⟩) n n) hdInfo rfl rfl rfl (by simp [hr0, Value.oneCell']) fun w2 hk2 hb2 hsz2 => ?_
  clear hsz2
  have HK2 := Lib.hid hk2
  have HM2 := Lib.hid (HM.out.keep hb2)
  have HT2 := Lib.hid (below_two HT1.out hb2)
  have hlt2 := hk2.lt
  have HL2 := Lib.hid hlt2
  clear hk2 hb2 HM HT1 hlt2
  go_wp2_with fail
  refine upon_conv_sb 9 39 5 Tryd.underlying9 Tryd.underlying39 Tryd.underlying5 l HLM.out ?_
  intro c w3 hown3 hb3 hlt3
  have hk3 := HK2.out.keep hb3
  have hM3 := HM2.out.keep hb3
  have hT3 := below_two HT2.out hb3
  have hlc := hown3.2.1
  have hr3 := hown3.rd
  have HC3 := Lib.hid (HC.out w1.heap.size w2.heap.size c (w.heap.size + 1) n (by omega) w3 hk3 hr3 (by have := HL2.out; omega)
    ⟨(keep_of_below hT3 _ _ HV.out.1.1), (keep_of_below hT3 _ _ HV.out.1.2)⟩ ⟨(keep_of_below hT3 _ _ HV.out.2.1), (keep_of_below hT3 _ _ HV.out.2.2)⟩ (by have := HW.out.1; have := HS1.out; omega) (by have := HW.out.2; have := HS1.out; omega))
  have HM3 := Lib.hid hM3
  have HT3 := Lib.hid hT3
  clear hown3 hb3 hlt3 hk3 hM3 hT3 hlc hr3 HC HK2 HM2 HT2
  go_wp2_with fail
  refine HC3.out.mono ?_
  rintro e' w4 ⟨A, cA, rfl, hk4, hr4, hg4⟩
  have HK4 := Lib.hid hk4
  have HD := Lib.hid (headerData_any ct.toNat ep sq n cA A cid HN.out w4 hr4)
  have HM4 := Lib.hid (HM3.out.grown hg4 (by have := HS1.out; simp; omega))
  have HT4 := Lib.hid (HT3.out.grown hg4 HT3.out.size (fun k hk => by simp at hk; subst hk; have := HS1.out; omega))
  clear hk4 hr4 hg4 HC3 HM3 HT3
  go_wp2_with (with_reducible refine Held.load 66 ?_)
  refine held_load_row (cs := hr1 ct.toNat ep sq A n cA) HK4.out Tryd.underlying66 hdInfo rfl ?_
  go_wp2_with fail
  refine HD.out.mono ?_
  rintro e' w5 ⟨rfl, hb5⟩
  have hM5 := HM4.out.keep hb5
  have hT5 := below_two HT4.out hb5
  clear hb5 HD HK4 HM4 HT4
  go_wp2_with (with_reducible refine Held.store 25 ?_)
  refine held_store_row (cells := recN ct.toNat ep sq 0 cid) hM5 recInfo rfl rfl rfl (by simp [recN, Value.oneCell']) fun w6 hk6 hg6 _ => ?_
  go_wp2_with fail
  exact bodyPost_cell2 rfl rfl rfl hk6 Tryd.underlying25 recInfo ⟨rfl, hT5.grown hg6 hT5.size (fun k hk' => by simp at hk'; omega)⟩
theorem headerWrite_any (ct : UInt8) (cid : List UInt8) (ep sq cl n : Nat) (hsq : decide ((281474976710655 : Int) < (sq : Int)) = false) (hn : cid.length = n) (hn3 : (n : Int) ≤ 2147483647) (o : List UInt8) (ho : hdOut ct 254 253 ep sq cl cid = o) (w : World) :
    Calls Tryd.prog 9 #[.agg (recN ct.toNat ep sq cl cid)] w fun e w' => e = .returned (.tuple #[.string (S o), .bool true]) ∧ Below w.heap.size w w' := by
  rw [recN_eq]
  have HH := Lib.hid (fun w => header_any ct 254 253 ep sq cl cid (by simp only [maxLen]; omega) w)
  have HMM : Hid (∀ b ra c (w : World), Blk w b 66 (hdRow ct 254 253 ep sq cl (some ⟨ra, 0, none⟩) n c) → Rd w (some ⟨ra, 0, none⟩) (vs cid) → Calls Tryd.prog 27 #[.pointer (some ⟨b, 0, none⟩)] w fun e w' => ∃ A' n' c', e = .returned (.tuple #[.slice A' n' c', .nilIface]) ∧ o.length = n' ∧ Rd w' A' (vs o) ∧ Below w.heap.size w w') := Lib.hid (fun b ra c w hk hr => by
    rw [← ho]
    exact marshalHd_ok b ct 254 253 ep sq cl ra n c cid hn hn3 hsq w hk hr)
  have HN := Lib.hid hn
  obtain ⟨cs, hcs⟩ : ∃ cs, recRow ct 254 253 ep sq cl cid = cs := ⟨_, rfl⟩
  rw [hcs] at HH ⊢
  have hi : (Tryd.prog.info? 25).map (·.size) = some cs.size := by rw [← hcs]; exact recInfo
  clear hsq hn hn3 ho hcs
  go_enter Tryd.func9, Tryd.ntmps9
  have hg := heap_alloc_new w (.cells cs 25)
  go_wp2_with (with_reducible refine Held.load 25 ?_)
  refine held_load_row (cs := cs) hg Tryd.underlying25 hi rfl ?_
  clear hg hi
  go_wp2_with fail
  refine (HH.out _).mono ?_
  rintro e w1 ⟨ra, c, rfl, hr, hb1⟩
  have HR := Lib.hid hr
  have HB1 := Lib.hid (below_two (below_alloc w _) hb1)
  clear hr hb1 HH
  go_wp2_with (with_reducible refine Held.store 66 ?_)
  refine held_store_new (cells := hdRow ct 254 253 ep sq cl (some ⟨ra, 0, none⟩) cid.length c) hdInfo rfl rfl rfl (by simp [hdRow, Value.oneCell']) fun w2 hk2 hb2 hsz2 => ?_
  clear hsz2
  rw [HN.out] at hk2
  have HMC := Lib.hid (HMM.out _ ra c w2 hk2 (HR.out.keep hb2))
  have HB2 := Lib.hid (below_two HB1.out hb2)
  clear hk2 hb2 HMM HB1 HR
  go_wp2_with fail
  refine HMC.out.mono ?_
  rintro e w3 ⟨A', n', c', rfl, hn', hr3, hb3⟩
  have HT := Lib.hid (text_any A' n' c' _ hn' w3 hr3)
  have HB3 := Lib.hid (below_two HB2.out hb3)
  clear hn' hr3 hb3 HMC HB2
  go_wp2_with fail
  refine HT.out.mono ?_
  rintro e w4 ⟨rfl, rfl⟩
  go_wp2_with fail
  go_ret2
  exact ⟨rfl, HB3.out⟩
end Go.Proofs.YtmappdbodnlepaaDoor
