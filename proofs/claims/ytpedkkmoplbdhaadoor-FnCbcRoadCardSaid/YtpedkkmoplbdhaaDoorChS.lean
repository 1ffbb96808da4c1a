/- Walks: a record with a connection ID is sealed, in the specification. -/
import Derived.Test.YtpedkkmoplbdhaaDoorAfS
import Derived.Test.YtpedkkmoplbdhaaDoorAcidSum
import Derived.Test.YtpedkkmoplbdhaaDoorCh
import Derived.Deep.RegionHeldLaw
import Derived.Deep.RegionHeld3
namespace Go.Proofs.YtpedkkmoplbdhaaDoor
open Go.RowKit Go.Cv
set_option maxRecDepth 100000
set_option linter.unusedVariables false
def chNon (iv : List UInt8) (ep sq : Nat) : List UInt8 := xorL iv ([0, 0, 0, 0] ++ (be 2 ep ++ be 6 sq)) 12
set_option maxHeartbeats 2000000 in
theorem sXor (a b : List UInt8) (n : Nat) (ha : a.length = n) (hb : b.length = n) (hn3 : n ≤ 1000) (w : World) :
    Calls Tryd.prog 59 #[.string (S a), .string (S b)] w fun e w' => e = .returned (.string (S (xorL a b n))) ∧ Below w.heap.size w w' := by
  have hz : (S a).size = n := by rw [S_size, ha]
  have hz2 : (S b).size = n := by rw [S_size, hb]
  have HN := Lib.hid (And.intro ha hb)
  have HN3 := Lib.hid hn3
  have n64 : n ≤ 4294967296 := by omega
  clear ha hb hn3
  go_enter Tryd.func59, Tryd.ntmps59
  go_wp2_with fail
  refine upon_make 51 5 (.int .u8 0) 1 Tryd.underlying51 s_u8info rfl 0 n rfl rfl (Nat.zero_le _) (by have := HN3.out; omega) (by have := HN3.out; simp only [maxLen]; omega) ?_
  intro w1 hown hb hsz
  have HO0 : Hid (Own w1 w.heap.size 1 (some ⟨w.heap.size, 0, none⟩) 0 n (vs (xorL a b 0))) := Lib.hid hown
  have HB0 := Lib.hid hb
  have HZ0 : Hid (w.heap.size < w1.heap.size) := Lib.hid (by omega)
  obtain ⟨p, hp⟩ : ∃ p, w.heap.size = p := ⟨_, rfl⟩
  rw [hp] at HO0 HB0 HZ0 ⊢
  have HP := Lib.hid hp
  clear hown hb hsz hp
  go_wp2_with fail
  go_loopw [5, 6] (fun o i wr => ∃ j A c, j ≤ n ∧ i = .int .i64 (j : Nat) ∧ o = .slice A j c ∧ Hid (Own wr p 1 A j c (vs (xorL a b j)) ∧ Below p w wr ∧ p < wr.heap.size ∧ Hi p A)) (fun _ i _ => n - (intOf i).toNat)
  case atStart => exact ⟨0, _, n, Nat.zero_le _, rfl, rfl, Lib.hid ⟨HO0.out, HB0.out, HZ0.out, .inr ⟨_, rfl, Nat.le_refl _⟩⟩⟩
  case round =>
    obtain ⟨j, A, c, hj, rfl, rfl, HJ⟩ := hrel
    by_cases hlt : j < n
    · have hix := fun w' => run_index_S (P := Tryd.prog) w' 9 Tryd.underlying9 a .i64 j j rfl (by rw [HN.out.1]; exact hlt)
      have hiy := fun w' => run_index_S (P := Tryd.prog) w' 9 Tryd.underlying9 b .i64 j j rfl (by rw [HN.out.2]; exact hlt)
      have HE := Lib.hid (xorL_succ a b j)
      obtain ⟨x, hx⟩ : ∃ x, a.getD j 0 = x := ⟨_, rfl⟩
      obtain ⟨y, hy⟩ : ∃ y, b.getD j 0 = y := ⟨_, rfl⟩
      rw [hx] at hix HE
      rw [hy] at hiy HE
      have e1 := u8x x y
      obtain ⟨z, hzz⟩ : ∃ z, x ^^^ y = z := ⟨_, rfl⟩
      rw [hzz] at e1 HE
      have jw := w64_inc hlt n64
      clear hx hy hzz
      go_wp2_with fail
      go_region_held_law (fun _ => True) (exact trivial) (first
        | (refine step_append rfl (.tmp 22) (.tmp 30) 51 51 rfl p 5 _ 1 1 Tryd.underlying51 (.inl Tryd.underlying51) s_u8info rfl (by omega) (xs := vs (xorL a b j)) (ys := [.int .u8 (z.toNat : Int)]) (m := 1) rfl rfl ((HJ.out.1.keep (below_alloc _ _)).keep (below_drew _)) ⟨rfl, fun v hv => by simp at hv; subst hv; rfl, .inl ⟨_, _, rfl, rd_single _ _ _⟩⟩ (by have := HN3.out; omega) (by have := HN3.out; simp only [maxLen]; omega) (by rw [World.size_drew, World.size_alloc]; exact Nat.le_succ_of_le (Nat.le_of_lt HJ.out.2.2.1)) ?_; intro A9 c9 w9 hO9 hg9 hor9))
      all_goals
        have HO9 : Hid (Own w9 p 1 A9 (j + 1) c9 (vs (xorL a b (j + 1)))) := Lib.hid (by rw [HE.out, vs_append]; exact hO9)
        have hb9 : Below p w w9 := by
          refine below_tchA (HJ.out.2.1.alloc (by have := HJ.out.2.2.1; exact Nat.le_of_lt this) _).drew (Tch.grown hg9) (fun k hk => HJ.out.2.2.2.inn k hk) ?_
          rw [World.size_drew, World.size_alloc]; exact Nat.le_succ_of_le (Nat.le_of_lt HJ.out.2.2.1)
        have HB9 := Lib.hid hb9
        have HZ9 : Hid (p < w9.heap.size) := Lib.hid (Nat.lt_of_lt_of_le (by rw [World.size_drew, World.size_alloc]; exact Nat.lt_succ_of_lt HJ.out.2.2.1) hg9.size)
        have HI9 := Lib.hid (HJ.out.2.2.2.new hor9 (by rw [World.size_drew, World.size_alloc]; exact Nat.le_succ_of_le (Nat.le_of_lt HJ.out.2.2.1)))
        clear hO9 hg9 hor9 hb9
        go_wp2_with fail
        go_roundw
        case rel => exact ⟨j + 1, A9, c9, hlt, by first | (rw [jw]; go_num) | go_num, rfl, Lib.hid ⟨HO9.out, HB9.out, HZ9.out, HI9.out⟩⟩
        case measure => first | exact s_meas hlt | (rw [jw]; exact s_meas hlt)
    · obtain rfl : n = j := by omega
      have HR := Lib.hid HJ.out.1.rd
      have HB := Lib.hid HJ.out.2.1
      clear HJ hlt hj
      go_wp2_with fail
      refine upon_conv_bs 51 9 5 Tryd.underlying51 Tryd.underlying5 Tryd.underlying9 (xorL a b n) A n c (xorL_length _ _ _) HR.out ?_
      go_wp2_with fail
      go_ret
      exact ⟨rfl, by rw [HP.out]; exact HB.out⟩
theorem sNonce (iv cid : List UInt8) (ep sq cl : Nat) (hiv : iv.length = 12) (hep : ep < 65536) (w : World) :
    Calls Tryd.prog 29 #[.string (S iv), .agg (recRow 25 254 253 ep sq cl cid)] w fun e w' => e = .returned (.string (S (chNon iv ep sq))) ∧ Below w.heap.size w w' := by
  have H1 := Lib.hid (fun W => suiteSeq_any 25 254 253 ep sq cl cid (by omega) W)
  have H2 := Lib.hid (fun W => sXor iv ([0, 0, 0, 0] ++ (be 2 ep ++ be 6 sq)) 12 hiv (by simp [be_length]) (by omega) W)
  obtain ⟨s8, hs8⟩ : ∃ s, be 2 ep ++ be 6 sq = s := ⟨_, rfl⟩
  have hl8 : s8.length = 8 := by rw [← hs8]; simp [be_length]
  have HC : Hid (chNon iv ep sq = xorL iv ([0, 0, 0, 0] ++ (be 2 ep ++ be 6 sq)) 12) := Lib.hid rfl
  rw [hs8] at H1 H2 HC
  obtain ⟨s12, h12⟩ : ∃ s, [0, 0, 0, 0] ++ s8 = s := ⟨_, rfl⟩
  have ha : ∀ w, (Op.stringOp .add (ByteArray.mk #[0, 0, 0, 0]) (S s8)).run Tryd.prog w = .ok (.string (S s12)) w := fun w => run_add_eq (P := Tryd.prog) [0, 0, 0, 0] s8 s12 h12 (by rw [← h12, List.length_append]; simp; omega) w
  rw [h12] at H2 HC
  generalize hcs : recRow 25 254 253 ep sq cl cid = cs at H1 ⊢
  have hi : (Tryd.prog.info? 25).map (·.size) = some cs.size := by rw [← hcs]; exact recInfo
  clear hcs hiv hep hs8 hl8 h12
  go_enter Tryd.func29, Tryd.ntmps29
  have hg := Blk.new w 25 cs
  have hb0 := below_alloc w (.cells cs 25)
  go_wp2_with (with_reducible refine Held.load 25 ?_)
  refine held_load_row hg Tryd.underlying25 hi rfl ?_
  generalize (World.alloc w _) = w0 at *
  have HB0 := Lib.hid hb0
  clear hb0 hg hi
  go_wp2_with fail
  refine (H1.out w0).mono ?_
  rintro e w1 ⟨rfl, hb1⟩
  go_wp2_with fail
  refine (H2.out w1).mono ?_
  rintro e w2 ⟨rfl, hb2⟩
  go_wp2_with fail
  go_ret
  exact ⟨by rw [HC.out]; rfl, below_two (below_two HB0.out hb1) hb2⟩
theorem sExtra (cid : List UInt8) (ep sq cl m : Nat) (hn : cid.length ≤ 255) (hep : ep < 65536) (hm : m < 65536) (w : World) :
    Calls Tryd.prog 30 #[.agg (recRow 25 254 253 ep sq cl cid), .int .i64 m] w fun e w' => e = .returned (.string (S (acid 254 253 ep sq cid m))) ∧ Below w.heap.size w w' := by
  have H1 := Lib.hid (fun W => acidSum_any 25 254 253 ep sq cl cid m hn (by omega) (by omega) (by omega) (by omega) W)
  have hc0 : (w.alloc (.cells (recRow 25 254 253 ep sq cl cid) 25)).cell? ⟨w.heap.size, 0, none⟩ = some (.int .u8 25) := ((Blk.new w _ _).cell 0).trans rfl
  generalize hcs : recRow 25 254 253 ep sq cl cid = cs at H1 hc0 ⊢
  have hi : (Tryd.prog.info? 25).map (·.size) = some cs.size := by rw [← hcs]; exact recInfo
  clear hcs hn hep hm
  go_enter Tryd.func30, Tryd.ntmps30
  have hg := Blk.new w 25 cs
  have hb0 := below_alloc w (.cells cs 25)
  go_wp2_with (with_reducible refine Held.load 25 ?_)
  refine held_load_row hg Tryd.underlying25 hi rfl ?_
  generalize (World.alloc w _) = w0 at *
  go_wp2_with fail
  refine (H1.out w0).mono ?_
  rintro e w1 ⟨rfl, hb1⟩
  go_wp2_with fail
  go_ret
  exact ⟨rfl, below_two hb0 hb1⟩
end Go.Proofs.YtpedkkmoplbdhaaDoor
