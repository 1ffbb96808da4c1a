/- Walks: RenegotiationInfo written. -/
import Derived.Test.YtnjomlcenolkdaaBig
import Derived.Test.YtnjomlcenolkdaaRow
import Derived.Deep.RegionHeld3
namespace Go.Proofs.Ytnjomlcenolkdaa
open Go.RowKit Go.Cv
set_option maxRecDepth 100000
theorem makeReneg_any (n : Nat) (hn : (n : Int) < 256) (w : World) (cs : Array Value) (h : cs[6]? = some (.int .u32 n)) :
    Calls Try.prog 43 #[.agg cs] w fun e w' =>
      ∃ b, e = .returned (.pointer (some ⟨b, 0, none⟩)) ∧ w'.cell? ⟨b, 0, none⟩ = some (.int .u8 n) ∧ Below w.heap.size w w' := by
  go_enter Try.func43, Try.ntmps43
  go_wp2_with fail
  go_ret
  refine ⟨w.heap.size + 1, rfl, by simp, ((Below.refl _ w).alloc (Nat.le_refl _) _).alloc (by simp) _⟩

theorem renegType_any (v : Value) (w : World) : Calls Try.prog 53 #[.agg #[v]] w fun e w' =>
      e = .returned (.int .u16 65281) ∧ w.alloc (.cells #[v] 110) = w' := by
  go_enter Try.func53, Try.ntmps53
  go_wp2_with fail
  go_ret
  exact ⟨rfl, rfl⟩

theorem marshalReneg_any (b : Nat) (n : Nat) (hn : (n : Int) < 256) (w : World) (h : w.cell? ⟨b, 0, none⟩ = some (.int .u8 n)) :
    Calls Try.prog 44 #[.pointer (some ⟨b, 0, none⟩)] w fun e w' =>
      ∃ A' n' c', e = .returned (.tuple #[.slice A' n' c', .nilIface]) ∧ 5 = n' ∧ Rd w' A' (vs [255, 1, 0, 1, UInt8.ofNat n]) ∧ Below w.heap.size w w' := by
  have hb0 := block_lt h
  go_enter Try.func44, Try.ntmps44
  go_wp2_with fail
  refine upon_make 26 5 (.int .u8 0) 1 Try.underlying26 u8info rfl 5 5 rfl rfl (Nat.le_refl _) (by omega) (by simp only [maxLen]; omega) ?_
  intro w1 hown hb hsz
  have h1 := keep_of_below hb _ _ h
  go_wp2_with fail
  have hbl : b < w1.heap.size := by omega
  go_region_held3 (fun w' => w'.cell? ⟨b, 0, none⟩ = some (.int .u8 n)) (first | assumption | exact h1 | (simp [go_sem, h1, hbl]; done)) (first
    | (go_at_call 53; refine (renegType_any _ _).mono ?_; rintro e w2 ⟨rfl, rfl⟩)
    | (go_at_call 49; refine (put16_any w.heap.size w.heap.size 0 5 5 0 0 5 5 _ 65281 _ (hown.keep (by first | exact ((Below.refl _ _).drew).alloc (by simp) _ | exact ((Below.refl _ _).drew))) rfl (by omega) (by omega)).mono ?_; rintro e w2 ⟨rfl, hown2, hg2⟩; have h2 := hg2.cell (a := ⟨b, 0, none⟩) (by simp [go_sem, h1, hbl]; rfl) (by simp; omega)))
  have hb2 : Below w.heap.size w w2 := (((hb.alloc (by omega) _).drew)).grown hg2 (by simp; omega) (fun k hk => by simp at hk; omega)
  have hsz2 : w.heap.size < w2.heap.size := by have := hg2.size; simp at this; omega
  clear hg2 hown h1 hb hsz hbl
  go_wp2_with fail
  have hbl2 : b < w2.heap.size := by omega
  go_region_held3 (fun w' => w'.cell? ⟨b, 0, none⟩ = some (.int .u8 n)) (first | assumption | exact h2 | (simp [go_sem, h2]; done)) (first
    | (go_at_call 49; refine (put16_any w.heap.size w.heap.size 0 5 5 2 2 3 3 _ 1 _ (hown2.keep ((Below.refl _ _).drew)) rfl (by omega) (by omega)).mono ?_; rintro e w3 ⟨rfl, hown3, hg3⟩; have h3 := hg3.cell (a := ⟨b, 0, none⟩) (by simp [go_sem, h2]; rfl) (by simp; omega)))
  have hb3 : Below w.heap.size w w3 := (hb2.drew).grown hg3 (by simp; omega) (fun k hk => by simp at hk; omega)
  clear hg3 hown2 h2 hb2 hbl2
  obtain ⟨v4, hv4, hc4, hf4⟩ := hown3.at_ 4 (by omega)
  have hown4 := hown3.set 4 (by omega) (.int .u8 n)
  simp only [Nat.zero_add] at hc4 hf4 hown4
  go_wp2_with fail
  go_ret2
  refine ⟨_, 5, _, rfl, rfl, ?_, hb3.setCell (by simp) _⟩
  have hr := hown4.rd
  have hm : (n : Int) % 256 = n := by omega
  simpa [vs, hm] using hr

theorem renegWrite_any (n : Nat) (hn : (n : Int) < 256) (w : World) (cs : Array Value) (hsz : cs.size = 13) (h : cs[6]? = some (.int .u32 n)) :
    Calls Try.prog 17 #[.agg cs] w fun e w' =>
      e = .returned (.tuple #[.string (S [255, 1, 0, 1, UInt8.ofNat n]), .bool true]) ∧ Below w.heap.size w w' := by
  have hi : (Try.prog.info? 49).map (·.size) = some cs.size := by rw [hsz]; kernel_rfl
  go_enter Try.func17, Try.ntmps17
  have hg := heap_alloc_new w (.cells cs 49)
  go_wp2_with (with_reducible refine wpList_load_row rfl 49 (.tmp 1) rfl w.heap.size (by with_unfolding_all rfl) 49 cs (0, 0) _ hg Try.underlying49 (by with_unfolding_all rfl) hi ?_)
  clear hi hg
  go_wp2_with fail
  refine (makeReneg_any n hn _ cs h).mono ?_
  rintro e w1 ⟨b, rfl, hcell, hb1⟩
  go_wp2_with fail
  refine (marshalReneg_any b n hn w1 hcell).mono ?_
  rintro e w2 ⟨A', n', c', rfl, hn', hr2, hb2⟩
  go_wp2_with fail
  refine (text_any A' n' c' _ (by rw [← hn']; rfl) w2 hr2).mono ?_
  rintro e w3 ⟨rfl, rfl⟩
  go_wp2_with fail
  go_ret2
  have hb1' := hb1.size
  simp only [World.size_alloc] at hb1 hb1'
  exact ⟨rfl, (((Below.refl _ w).alloc (Nat.le_refl _) _).trans (hb1.mono (by omega))).trans (hb2.mono (by omega))⟩

theorem law (n : Nat) (hn : (n : Int) < 256) (w : World) :
    Calls Try.prog 7 #[.int .u8 n] w fun e w' => e = .returned (.bool true) ∧ Below w.heap.size w w' := by
  go_enter Try.func7, Try.ntmps7
  go_wp2_with fail
  refine (renegWrite_any n hn _ _ rfl rfl).mono ?_
  rintro e w1 ⟨rfl, hb1⟩
  go_wp2_with fail
  refine upon_conv_bs 26 9 5 Try.underlying26 Try.underlying5 Try.underlying9 [UInt8.ofNat n] _ _ _ rfl (.inr ⟨_, _, rfl, fun j v hj => ?_⟩) ?_
  · match j, hj with
    | 0, hj =>
      have hm : (n : Int) % 256 = n := by omega
      simp [vs, hm] at hj
      subst hj
      simp
  go_wp2_with fail
  refine (framedExt_any 65281 (by omega) [UInt8.ofNat n] (by simp) _).mono ?_
  rintro e w2 ⟨rfl, hb2⟩
  have he : S (be 2 65281 ++ (be 2 [UInt8.ofNat n].length ++ [UInt8.ofNat n])) = S [255, 1, 0, 1, UInt8.ofNat n] := by
    rw [show be 2 65281 = [255, 1] by decide, show be 2 [UInt8.ofNat n].length = [0, 1] from (show be 2 1 = [0, 1] by decide)]
    rfl
  rw [he]
  go_wp2_with fail
  go_ret
  refine ⟨by simp, hb1.trans ?_⟩
  have hb1' := hb1.size
  have hb3 := ((Below.refl _ w1).alloc (Nat.le_refl _) _).trans (hb2.mono (by simp))
  exact hb3.mono hb1'
theorem fnReneg_row (x : Int) (hx : (Lit.int .u8 x).wf = true) (w : World) :
    Calls Try.prog 7 #[.int .u8 x] w fun e w' => e = .returned (.bool true) ∧ Below w.heap.size w w' := by
  obtain ⟨n, rfl, hn⟩ := nat_u8 hx
  exact law n hn w
end Go.Proofs.Ytnjomlcenolkdaa
