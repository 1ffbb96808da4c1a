/- Walks: a record with a connection ID is sealed, in the implementation. -/
import Derived.Test.YtpedkkmoplbdhaaDoorChI
import Derived.Deep.RegionHeldLaw
import Derived.Deep.RegionLaw
namespace Go.Proofs.YtpedkkmoplbdhaaDoor
open Go.RowKit Go.Cv
set_option maxRecDepth 100000
set_option linter.unusedVariables false
set_option maxHeartbeats 2000000 in
theorem implCh (key iv cid plain : List UInt8) (ep sq cl n p : Nat) (hk : key.length ≤ 2000) (hiv : iv.length = 12) (hcid : cid.length = n) (hn : n ≤ 255) (hpl : plain.length = p) (hp : p ≤ 2000) (hep : ep < 65536) (hsq : sq < 281474976710656) (w : World) :
    Calls Tryd.prog 10 #[.string (S key), .string (S iv), .agg (rwRow 25 254 253 ep sq cl cid), .string (S plain)] w fun e w' => e = .returned (.tuple #[.string (S (aSeal key (chNonce iv ep sq) plain (acid 254 253 ep sq cid p) 16)), .bool true]) ∧ Below w.heap.size w w' := by
  have HRE := Lib.hid (fun W => record_any 25 254 253 ep sq cl n cid plain hcid hn (by omega) (decide_eq_false (by omega)) W)
  have HNC := Lib.hid (fun W => newCh key iv hiv W)
  obtain ⟨h, hh⟩ : ∃ h, 13 + n = h := ⟨_, rfl⟩
  obtain ⟨hd, hhd⟩ : ∃ h, hdOut 25 254 253 ep sq cl cid = h := ⟨_, rfl⟩
  have hlh : hd.length = h := by rw [← hhd, hdOut_length, hcid, hh]
  rw [hhd] at HRE
  have HEN := Lib.hid (fun g q Ai Bi ci di ra c ab ao m c1 (hm : 13 + n + p = m) (hmc : m ≤ c1) W => chEnc g q key iv cid plain hd Ai Bi ci di ep sq cl n ra c ab ao m c1 p hk hiv hcid hn hpl hp (by rw [hlh, hh]) hm hmc hep hsq W)
  have HBH := Lib.hid (fun ra c b o N cN h' (hl : List.length h' = h) sl (hN : h + List.length sl = N) hlt hc W => behindOk ep sq cl n ra c b o N cN h h' sl hn hh hl hN hlt hc W)
  have HSL := Lib.hid (aSeal_length key (chNonce iv ep sq) plain (acid 254 253 ep sq cid p) 16 (by omega))
  have HP := Lib.hid (And.intro hpl (And.intro hp (And.intro hn hh)))
  have HLH := Lib.hid hlh
  obtain ⟨sl, hsl⟩ : ∃ s, aSeal key (chNonce iv ep sq) plain (acid 254 253 ep sq cid p) 16 = s := ⟨_, rfl⟩
  rw [hsl] at HEN HSL ⊢
  generalize hcs : rwRow 25 254 253 ep sq cl cid = cs at HRE ⊢
  have hi : (Tryd.prog.info? 25).map (·.size) = some cs.size := by rw [← hcs]; exact rwInfo
  clear hcs hk hiv hcid hn hpl hp hep hsq hh hhd hlh hsl
  go_enter Tryd.func10, Tryd.ntmps10
  have hg := Blk.new w 25 cs
  have hb0 := below_alloc w (.cells cs 25)
  go_wp2_with (with_reducible refine Held.load 25 ?_)
  refine held_load_row hg Tryd.underlying25 hi rfl ?_
  clear hi hg
  generalize (World.alloc w _) = w0 at *
  have HB0 := Lib.hid hb0
  clear hb0
  go_wp2_with fail
  refine (HRE.out w0).mono ?_
  rintro e w1 ⟨ra, c, A1, n1, c1, rfl, hl1, hr1, ho1, hc1, hb1⟩
  have hm1 : 13 + n + p = n1 := by rw [← hl1, List.length_append, HLH.out, HP.out.1, HP.out.2.2.2]
  obtain ⟨ab, ao, rfl⟩ := ho1.addr (by intro e; have h1 := congrArg List.length e; rw [List.length_append, HLH.out, List.length_nil] at h1; have := HP.out.2.2.2; omega)
  have HM1 := Lib.hid (And.intro hm1 hc1)
  have HR1 := Lib.hid hr1
  have HO1 := Lib.hid ho1
  have HB1 := Lib.hid (below_two HB0.out hb1)
  clear hl1 hr1 ho1 hc1 hb1 hm1 HRE HB0
  go_wp2_with (with_reducible refine Held.store 53 ?_)
  refine held_store_new (cells := hwRow 25 254 253 ep sq cl (some ⟨ra, 0, none⟩) n c) hwInfo rfl rfl rfl (by simp [hwRow, Value.oneCell']) fun w2 hk hb2 hsz2 => ?_
  have HK2 := Lib.hid hk
  have HB2 := Lib.hid (below_two HB1.out hb2)
  have HR2 := Lib.hid (HR1.out.keep hb2)
  have HO2 := Lib.hid (HO1.out.keep hb2)
  obtain ⟨y, hy⟩ : ∃ y, w1.heap.size = y := ⟨_, rfl⟩
  rw [hy] at HK2 ⊢
  clear hk hb2 hsz2 HR1 HB1 HO1 hy
  go_wp2_with fail
  have HQN : ∀ W : World, Blk (W.alloc (.cells #[.int .u8 25, .int .u16 (cl : Int), .int .u8 254, .int .u8 253, .int .u16 (ep : Int), .int .u64 (sq : Int), .slice (some ⟨ra, 0, none⟩) n c, .nilIface] 66)) W.heap.size 66 (pkRow 25 254 253 ep sq cl (some ⟨ra, 0, none⟩) n c) := fun W => Blk.new W _ _
  have HX : Hid (∀ w', Below w2.heap.size w2 w' → w'.cell? ⟨y, 0, none⟩ = some (.int .u8 25) ∧ w'.cell? ⟨y, 1, none⟩ = some (.int .u16 (cl : Int)) ∧ w'.cell? ⟨y, 2, none⟩ = some (.int .u8 254) ∧ w'.cell? ⟨y, 3, none⟩ = some (.int .u8 253) ∧ w'.cell? ⟨y, 4, none⟩ = some (.int .u16 (ep : Int)) ∧ w'.cell? ⟨y, 5, none⟩ = some (.int .u64 (sq : Int)) ∧ w'.cell? ⟨y, 6, none⟩ = some (.slice (some ⟨ra, 0, none⟩) n c)) := Lib.hid (fun w' hb => hdc (HK2.out.keep hb))
  (go_region_held_law (fun w' => w'.cell? ⟨y, 0, none⟩ = some (.int .u8 25) ∧ w'.cell? ⟨y, 1, none⟩ = some (.int .u16 (cl : Int)) ∧ w'.cell? ⟨y, 2, none⟩ = some (.int .u8 254) ∧ w'.cell? ⟨y, 3, none⟩ = some (.int .u8 253) ∧ w'.cell? ⟨y, 4, none⟩ = some (.int .u16 (ep : Int)) ∧ w'.cell? ⟨y, 5, none⟩ = some (.int .u64 (sq : Int)) ∧ w'.cell? ⟨y, 6, none⟩ = some (.slice (some ⟨ra, 0, none⟩) n c)) ((refine HX.out _ ?_; (repeat (first | exact Below.refl _ _ | refine below_two ?_ hb5 | refine below_two ?_ hb6 | refine Below.drew ?_ | refine below_two ?_ (below_alloc _ _))); done)) (first
      | (go_at_call 25; with_reducible refine (HNC.out _).mono ?_; rintro e w5 ⟨g, Ai, Bi, ci, di, rfl, hk5, hi5, hb5⟩)
      | (go_at_call 26; with_reducible refine (HEN.out g w5.heap.size Ai Bi ci di ra c ab ao n1 c1 HM1.out.1 HM1.out.2 _ (hk5.alloc _) (hi5.keep (below_alloc w5 _)) (HQN w5) (HR2.out.keep (below_two (below_two (below_drew w2) hb5) (below_alloc w5 _))) (HO2.out.keep (below_two (below_two (below_drew w2) hb5) (below_alloc w5 _)))).mono ?_; rintro e w6 ⟨A6, N6, c6, h6, rfl, hl6, hN6, hc6, hr6, hb6⟩; have hz6 : Below w2.heap.size w2 w6 := below_two (below_two (below_two (below_drew w2) hb5) (below_alloc w5 _)) hb6)
      | (go_at_call 26; with_reducible refine (HEN.out g w2.heap.size Ai Bi ci di ra c ab ao n1 c1 HM1.out.1 HM1.out.2 _ hk5 hi5 ((HQN w2).drew.keep hb5) (HR2.out.keep (below_two (below_two (below_alloc w2 _) (below_drew _)) hb5)) (HO2.out.keep (below_two (below_two (below_alloc w2 _) (below_drew _)) hb5))).mono ?_; rintro e w6 ⟨A6, N6, c6, h6, rfl, hl6, hN6, hc6, hr6, hb6⟩; have hz6 : Below w2.heap.size w2 w6 := below_two (below_two (below_two (below_alloc w2 _) (below_drew _)) hb5) hb6)))
  all_goals
    obtain ⟨b6, o6, rfl⟩ := hr6.addr (by intro e; have h1 := congrArg List.length e; rw [List.length_append, HSL.out, List.length_nil] at h1; omega)
    have HZ6 := Lib.hid hz6
    have HK6 := Lib.hid (HK2.out.keep hz6)
    have hh6 : List.length h6 = h := by rw [hl6]; exact HP.out.2.2.2
    have hNN : h + List.length sl = N6 := by rw [HSL.out, HP.out.1, ← HP.out.2.2.2]; exact hN6
    have HB6 := Lib.hid (HBH.out ra c b6 o6 N6 c6 h6 hh6 sl hNN (by have := HSL.out; omega) hc6 w6 hr6)
    clear hl6 hN6 hc6 hr6 hb6 hz6 hh6 hNN hk5 hi5 hb5 HQN
    go_wp2_with (with_reducible refine Held.load 53 ?_)
    refine held_load_row HK6.out Tryd.underlying53 hwInfo rfl ?_
    go_wp2_with fail
    refine HB6.out.mono ?_
    rintro e w7 ⟨rfl, hb7⟩
    have HF := Lib.hid (below_two (below_two HB2.out HZ6.out) hb7)
    clear hb7
    go_wp2_with fail
    first | go_ret2 | go_ret
    have h9 := HF.out
    first | exact ⟨rfl, h9⟩ | exact ⟨⟨rfl, rfl⟩, h9⟩ | exact h9
end Go.Proofs.YtpedkkmoplbdhaaDoor
