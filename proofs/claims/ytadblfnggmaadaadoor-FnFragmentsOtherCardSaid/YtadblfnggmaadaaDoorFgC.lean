/- Walks: a record that is no handshake message is pushed. -/
import Derived.Test.YtadblfnggmaadaaDoorFgB
namespace Go.Proofs.YtadblfnggmaadaaDoor
open Go.RowKit Go.Cv
set_option maxRecDepth 100000
set_option linter.unusedVariables false
/-- A record's bytes. -/
theorem rec_form (ct ep sq cl : Nat) (hep : ep < 65536) (hsq : sq < 281474976710656) (k : List UInt8) : ∃ e1 e2 s1 s2 s3 s4 s5 s6 c1 c2 : UInt8, headOf ct 254 253 ep sq cl [] ++ k = UInt8.ofNat ct :: 254 :: 253 :: e1 :: e2 :: s1 :: s2 :: s3 :: s4 :: s5 :: s6 :: ([] ++ (c1 :: c2 :: k)) ∧ e1.toNat * 256 + e2.toNat = ep ∧
    sq = (0 : UInt8).toNat * 72057594037927936 + ((0 : UInt8).toNat * 281474976710656 + (s1.toNat * 1099511627776 + (s2.toNat * 4294967296 + (s3.toNat * 16777216 + (s4.toNat * 65536 + (s5.toNat * 256 + s6.toNat)))))) := by
  obtain ⟨e1, e2, h1, h2⟩ := be2_two ep hep
  obtain ⟨s1, s2, s3, s4, s5, s6, h3, h4⟩ := be6_six sq hsq
  refine ⟨e1, e2, s1, s2, s3, s4, s5, s6, UInt8.ofNat (cl / 256), UInt8.ofNat cl, ?_, h2, h4⟩
  unfold headOf
  rw [h1, h3]
  simp [be]
def zeroHd : Array Value := hr0g (.int .u8 0) (.int .u8 0) (.int .u8 0) (.int .u16 0) (.int .u64 0) 0 none 0 0
set_option maxHeartbeats 2000000 in
theorem push_other (ct ep sq cl : Nat) (content : List UInt8) (f m cur : Nat) (sz cn : Int) (b n c : Nat) (hct : ct < 256) (h22 : ct ≠ 22) (h25 : ct ≠ 25) (hep : ep < 65536) (hsq : sq < 281474976710656) (hn : 13 + content.length = n) (hnb : n ≤ 100000) (hnc : n ≤ c) (hsz : 0 ≤ sz) (hsz2 : sz ≤ 1000000) (w : World)
    (hr : Rd w (some ⟨b, 0, none⟩) (vs (headOf ct 254 253 ep sq cl [] ++ content))) (hf : Blk w f 105 (fbRow m cur sz cn)) (hfb : f ≠ b)
    (v0 : w.cell? ⟨4, 0, none⟩ = some (.int .u8 254) ∧ w.cell? ⟨4, 1, none⟩ = some (.int .u8 255)) (v2 : w.cell? ⟨5, 0, none⟩ = some (.int .u8 254) ∧ w.cell? ⟨5, 1, none⟩ = some (.int .u8 253)) :
    Calls Tryd.prog 32 #[.pointer (some ⟨f, 0, none⟩), .slice (some ⟨b, 0, none⟩) n c] w fun e w' => e = .returned (.tuple #[.bool false, .bool false, .nilIface]) ∧ Below w.heap.size w w' := by
  obtain ⟨e1, e2, s1, s2, s3, s4, s5, s6, c1, c2, hform, he, hs⟩ := rec_form ct ep sq cl hep hsq content
  have hc : (UInt8.ofNat ct).toNat = ct := by rw [UInt8.toNat_ofNat']; omega
  have hbl : b < w.heap.size := by
    have h := hr.byte 0 (by rw [hform]; simp)
    exact block_lt h
  have hgl0 := block_lt v0.1
  have hgl2 := block_lt v2.1
  simp only at hgl0 hgl2
  have HU := Lib.hid (fun (W : World) (g : Nat) (hW : Below w.heap.size w W) (hg : w.heap.size ≤ g) (hk : Blk W g 110 zeroHd) =>
    unmHdG_plain (.int .u8 0) (.int .u8 0) (.int .u8 0) (.int .u16 0) (.int .u64 0) 0 g b 0 c n 0 none _ (UInt8.ofNat ct) e1 e2 s1 s2 s3 s4 s5 s6 [] ep sq (by rw [hc]; simp; omega) (by rw [hc]; exact h25) he hs rfl (by omega) (by omega) hnc W hk (hdIn_of hform (hr.keep hW)) (by omega)
      ⟨keep_of_below hW _ _ v0.1, keep_of_below hW _ _ v0.2⟩ ⟨keep_of_below hW _ _ v2.1, keep_of_below hW _ _ v2.2⟩ (by omega) (by omega))
  rw [hc] at HU
  have HS := Lib.hid (fbSize f m cur sz cn w hf)
  obtain ⟨t, ht⟩ : ∃ t, sz + (n : Int) = t := ⟨_, rfl⟩
  have d1 : decide (2000000 ≤ t) = false := by simp; omega
  have w1 : wrap64 t = t := by unfold wrap64; omega
  have w2 : IntKind.i64.wrap t = t := by rw [IntKind.wrap_i64]; omega
  have d2 : ((ct : Int) == 22) = false := by simp; omega
  have d3 : ¬ (ct : Int) = 22 := by omega
  have d4 : ¬ ct = 22 := h22
  clear hr hf v0 v2 hform he hs hsz hsz2 hnb hnc hn hep hsq h25 h22 hct hc hfb hbl hgl0 hgl2
  go_enter Tryd.func32, Tryd.ntmps32
  go_wp2_with fail
  refine HS.out.mono ?_
  rintro e w1 ⟨rfl, rfl⟩
  go_wp2_with fail
  have hb3 := below_alloc w (.cells zeroHd 110)
  have hk3 := Blk.new w 110 zeroHd
  have h := HU.out _ w.heap.size hb3 (Nat.le_refl _) hk3
  refine h.mono ?_
  clear h
  rintro e w4 ⟨rfl, hk4, hg4⟩
  have k0 : w4.cell? ⟨w.heap.size, 0, none⟩ = some (.int .u8 (ct : Nat)) := (hk4.cell 0).trans rfl
  have HB := Lib.hid (((Tch.below hb3 []).then (Tch.grown hg4) (by simp)).toBelow (Nat.le_refl _))
  clear hk4 hg4 hb3 hk3 HU HS
  go_wp2_with fail
  first | go_ret3 | go_ret
  exact ⟨rfl, HB.out⟩
end Go.Proofs.YtadblfnggmaadaaDoor
