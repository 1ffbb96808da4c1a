/- Walks: what is written with its length ahead, where no continuation runs yet. -/
import Derived.Test.YtohankdfnjogfaaDoorBp4
namespace Go.Proofs.YtohankdfnjogfaaDoor
open Go.RowKit Go.Cv
set_option maxRecDepth 100000
set_option linter.unusedVariables false
theorem _root_.Go.Cv.Tch.frozen' {w w' : World} {L : List Nat} {a : Addr} (ht : Tch L w w') (h : w.frozen? a = false) (hn : a.block ∉ L) (hl : a.block < w.heap.size) : w'.frozen? a = false := by
  have hh := ht.block a.block hl hn
  simp only [World.frozen?, hh] at h ⊢
  exact h
set_option maxHeartbeats 4000000 in
theorem alpTop_any (P : Nat → Prop) (w : World) (F : Nat) (cap : Array Value) (p off pl k : Nat) (l body : List UInt8) (hE : ∀ args w, (callFunc F args).run Tryd.prog w = .ok (.enter F args) w) (hk1 : 1 ≤ k) (hk2 : k ≤ 2) (hB : body.length < 256 ^ k) (hs : l.length + k + body.length ≤ 280000)
    (hb : BP P w p (.pointer none) off pl l) (hfill : ∀ icb, Fills P w F cap icb body) :
    Calls Tryd.prog 29 #[.pointer (some ⟨p, 0, none⟩), .int .i64 (k : Int), .bool false, .func (Fn.func F) #[] cap] w fun e w' => e = .returned (.tuple #[]) ∧ ∃ icb, BP P w' p (.pointer (some ⟨icb, 0, none⟩)) off pl (l ++ (be k body.length ++ body)) ∧ Kp P w w' := by
  have HBP := Lib.hid hb
  obtain ⟨A, c, hblk, hown, hA, hPp, hPl⟩ := hb
  have c0 := hblk.cell 0
  have c1 := hblk.cell 1
  simp [bldR] at c0 c1
  obtain ⟨L, hL⟩ : ∃ L, l.length = L := ⟨_, rfl⟩
  rw [hL] at c1
  have HL := Lib.hid hL
  have HPP := Lib.hid hPp
  have HPL := Lib.hid hPl
  have HF := Lib.hid hfill
  have HK : Hid (1 ≤ k ∧ k ≤ 2) := Lib.hid ⟨hk1, hk2⟩
  have HS : Hid (L + k + body.length ≤ 280000) := Lib.hid (by rw [← hL]; exact hs)
  have HBL := Lib.hid hB
  have hps := hblk.lt
  clear hblk hown hA hPp hPl hL hfill hk1 hk2 hs hB
  go_enter Tryd.func29, Tryd.ntmps29
  go_wp2_with fail
  refine upon_make 30 5 (.int .u8 0) 1 Tryd.underlying30 u8info rfl k k rfl rfl (Nat.le_refl _) (by have := HK.out; omega) (by have := HK.out; simp only [maxLen]; omega) ?_
  intro w1 hown hb1 hsz1
  have hrz : Rd w1 (some ⟨w.heap.size, 0, none⟩) (vs (List.replicate k (0 : UInt8))) := by rw [vs_zeros]; exact hown.rd
  have HAD := Lib.hid (addP_any P p (.pointer none) off pl l (List.replicate k 0) (some ⟨w.heap.size, 0, none⟩) k k (by simp) (by have := HK.out; omega) (by rw [HL.out]; have := HS.out; omega) w1 (HBP.out.keep hb1) hrz)
  have HB1 := Lib.hid hb1
  clear hown hb1 hrz hsz1 c0 c1
  go_wp2_with fail
  refine HAD.out.mono ?_
  rintro e w2 ⟨rfl, hb2, hk2⟩
  obtain ⟨m, hm⟩ : ∃ m, (l ++ List.replicate k (0 : UInt8)).length = m := ⟨_, rfl⟩
  have hmp : 0 < m := by rw [← hm, List.length_append, List.length_replicate]; have := HK.out; omega
  obtain ⟨A2, c, hblk, hown2, hA2, _, _⟩ := hb2
  rw [hm] at hblk hown2
  obtain ⟨a, rfl, hPa, hap, halt0⟩ : ∃ a, A2 = some ⟨a, 0, none⟩ ∧ ¬ P a ∧ a ≠ p ∧ a < w2.heap.size := by
    rcases hA2 with rfl | h
    · obtain ⟨_, hcc, _, h | ⟨b, o, hA, _⟩⟩ := hown2
      · omega
      · cases hA
    · exact h
  have HPA := Lib.hid hPa
  have HK20 : Hid (Kp P w w2) := Lib.hid ((Kp.below HB1.out).trans hk2)
  have HM := Lib.hid hm
  have HO20 := Lib.hid hown2
  have HB20 := Lib.hid hblk
  have HAA : Hid (a ≠ p ∧ a < w2.heap.size) := Lib.hid ⟨hap, halt0⟩
  have c7 := hblk.cell 7
  have cf7 := hblk.frozen 7
  simp [bldR] at c7
  have hps2 : p < w2.heap.size := hblk.lt
  clear hk2 hblk HAD HB1 HBP hm hown2 hA2 hPa hap halt0 hmp
  go_wp2_with fail
  have hT7 := Tch.set w2 p 7 (.pointer (some ⟨w2.heap.size, 0, none⟩))
  have hT8 : Tch [p] w2 ((w2.setCell ⟨p, 7, none⟩ (.pointer (some ⟨w2.heap.size, 0, none⟩))).alloc (.cells #[.bool false] 4)) := hT7.trans ((Tch.alloc _ _).more (by simp))
  have hBK : Blk ((w2.setCell ⟨p, 7, none⟩ (.pointer (some ⟨w2.heap.size, 0, none⟩))).alloc (.cells #[.bool false] 4)) p 54 (bldR (some ⟨a, 0, none⟩) m c (.pointer none) (.pointer (some ⟨w2.heap.size, 0, none⟩)) off pl) := Blk.alloc (by simpa [bldR] using HB20.out.set_ 7 (.pointer (some ⟨w2.heap.size, 0, none⟩))) _
  have hNI := Blk.new (w2.setCell ⟨p, 7, none⟩ (.pointer (some ⟨w2.heap.size, 0, none⟩))) 4 #[.bool false]
  have hsz3 := World.size_alloc (w2.setCell ⟨p, 7, none⟩ (.pointer (some ⟨w2.heap.size, 0, none⟩))) (.cells #[.bool false] 4)
  rw [World.size_setCell] at hNI hsz3
  obtain ⟨icb, hicb⟩ : ∃ icb, w2.heap.size = icb := ⟨_, rfl⟩
  have hO3 := HO20.out.tch hT8 (.inr ⟨a, rfl, by simpa using HAA.out.1⟩)
  have hK3 : Kp P w _ := HK20.out.trans (Kp.tch hT8 (fun k hk => by simp at hk; subst hk; exact HPP.out))
  have haa := HAA.out.2
  have hwi : w.heap.size ≤ icb := by rw [← hicb]; exact HK20.out.size
  rw [hicb] at hps2 hNI hsz3 hBK hO3 hK3 haa
  rw [hicb]
  generalize (w2.setCell ⟨p, 7, none⟩ (.pointer (some ⟨icb, 0, none⟩))).alloc (.cells #[.bool false] 4) = w3 at *
  have hic3 : w3.cell? ⟨icb, 0, none⟩ = some (.bool false) := (hNI.cell 0).trans rfl
  have HIC2 := Lib.hid hic3
  have HIF2 := Lib.hid (hNI.frozen 0)
  have HCH : Hid (Ch w3 p a c icb off pl (l ++ List.replicate k 0)) := Lib.hid ⟨by rw [HM.out]; exact hBK, by rw [HM.out]; exact hO3, HAA.out.1, by omega⟩
  have HBK := Lib.hid hBK
  have HK2 := Lib.hid hK3
  have HII : Hid (w.heap.size ≤ icb ∧ p < icb ∧ a < icb ∧ icb < w3.heap.size) := Lib.hid ⟨hwi, hps2, haa, by omega⟩
  have hps2 : p < w3.heap.size := by omega
  clear c7 cf7 hT7 hT8 hBK hNI hsz3 hO3 hK3 haa hwi hic3 HK20 HO20 HB20 HAA hicb
  have HBD : Hid (Blk w3.drew p 54 (bldR (some ⟨a, 0, none⟩) m c (.pointer none) (.pointer (some ⟨icb, 0, none⟩)) off pl)) := HBK
  have df3 := HBD.out.frozen 3
  have d1 : w3.drew.cell? ⟨p, 1, none⟩ = some (.slice (some ⟨a, 0, none⟩) m c) := HBD.out.cell 1
  have d2 : w3.drew.cell? ⟨p, 2, none⟩ = some (.bool false) := HBD.out.cell 2
  have d7 : w3.drew.cell? ⟨p, 7, none⟩ = some (.pointer (some ⟨icb, 0, none⟩)) := HBD.out.cell 7
  have d3 : w3.drew.cell? ⟨p, 3, none⟩ = some (.pointer none) := HBD.out.cell 3
  have hsd : w3.drew.heap.size = w3.heap.size := rfl
  have e1 : w3.cell? ⟨p, 1, none⟩ = some (.slice (some ⟨a, 0, none⟩) m c) := d1
  have e2 : w3.cell? ⟨p, 2, none⟩ = some (.bool false) := d2
  have e7 : w3.cell? ⟨p, 7, none⟩ = some (.pointer (some ⟨icb, 0, none⟩)) := d7
  have e3 : w3.cell? ⟨p, 3, none⟩ = some (.pointer none) := d3
  have ef3 : w3.frozen? ⟨p, 3, none⟩ = false := df3
  go_region_held_law (fun w' => w'.cell? ⟨p, 1, none⟩ = some (.slice (some ⟨a, 0, none⟩) m c) ∧ w'.cell? ⟨p, 2, none⟩ = some (.bool false) ∧ w'.cell? ⟨p, 7, none⟩ = some (.pointer (some ⟨icb, 0, none⟩))) (first | exact ⟨d1, d2, d7⟩ | (simp [go_sem, e1, e2, e7, hps2]; done)) (fail)
  clear d1 d2 d3 d7 df3 hsd HBD
  go_wp2_with fail
  clear e1 e2 e3 e7 ef3
  change Calls _ _ _ (World.drew ((w3.setCell ⟨p, 3, none⟩ (.pointer (some ⟨w3.heap.size, 0, none⟩))).alloc (.cells (bldR (some ⟨a, 0, none⟩) m c (.pointer none) (.pointer (some ⟨icb, 0, none⟩)) L k) 54))) _
  obtain ⟨q, hq⟩ : ∃ q, w3.heap.size = q := ⟨_, rfl⟩
  rw [hq] at hps2 ⊢
  have hTS := Tch.set w3 p 3 (.pointer (some ⟨q, 0, none⟩))
  have hTA := Tch.alloc (w3.setCell ⟨p, 3, none⟩ (.pointer (some ⟨q, 0, none⟩))) (.cells (bldR (some ⟨a, 0, none⟩) m c (.pointer none) (.pointer (some ⟨icb, 0, none⟩)) L k) 54)
  have hT5 : Tch [p] w3 (World.drew ((w3.setCell ⟨p, 3, none⟩ (.pointer (some ⟨q, 0, none⟩))).alloc (.cells (bldR (some ⟨a, 0, none⟩) m c (.pointer none) (.pointer (some ⟨icb, 0, none⟩)) L k) 54))) := (hTS.trans (hTA.more (by simp))).trans ((Tch.drew _).more (by simp))
  have hnew := Blk.new (w3.setCell ⟨p, 3, none⟩ (.pointer (some ⟨q, 0, none⟩))) 54 (bldR (some ⟨a, 0, none⟩) m c (.pointer none) (.pointer (some ⟨icb, 0, none⟩)) L k)
  rw [World.size_setCell, hq] at hnew
  have hnew : Blk (World.drew ((w3.setCell ⟨p, 3, none⟩ (.pointer (some ⟨q, 0, none⟩))).alloc (.cells (bldR (some ⟨a, 0, none⟩) m c (.pointer none) (.pointer (some ⟨icb, 0, none⟩)) L k) 54))) q 54 (bldR (some ⟨a, 0, none⟩) m c (.pointer none) (.pointer (some ⟨icb, 0, none⟩)) L k) := hnew
  have hB4 : Blk (w3.setCell ⟨p, 3, none⟩ (.pointer (some ⟨q, 0, none⟩))) p 54 (bldR (some ⟨a, 0, none⟩) m c (.pointer (some ⟨q, 0, none⟩)) (.pointer (some ⟨icb, 0, none⟩)) off pl) := by simpa [bldR] using HBK.out.set_ 3 (.pointer (some ⟨q, 0, none⟩))
  have hB5 : Blk (World.drew ((w3.setCell ⟨p, 3, none⟩ (.pointer (some ⟨q, 0, none⟩))).alloc (.cells (bldR (some ⟨a, 0, none⟩) m c (.pointer none) (.pointer (some ⟨icb, 0, none⟩)) L k) 54))) p 54 (bldR (some ⟨a, 0, none⟩) m c (.pointer (some ⟨q, 0, none⟩)) (.pointer (some ⟨icb, 0, none⟩)) off pl) := hB4.alloc _
  have hs5 : (World.drew ((w3.setCell ⟨p, 3, none⟩ (.pointer (some ⟨q, 0, none⟩))).alloc (.cells (bldR (some ⟨a, 0, none⟩) m c (.pointer none) (.pointer (some ⟨icb, 0, none⟩)) L k) 54))).heap.size = q + 1 := by have h := (World.size_alloc (w3.setCell ⟨p, 3, none⟩ (.pointer (some ⟨q, 0, none⟩))) (.cells (bldR (some ⟨a, 0, none⟩) m c (.pointer none) (.pointer (some ⟨icb, 0, none⟩)) L k) 54)); rw [World.size_setCell, hq] at h; exact h
  have hpa : p ≠ a := fun e => HCH.out.ne e.symm
  have hpi : p ≠ icb := Nat.ne_of_lt HII.out.2.1
  have halt : a < q := by have := HCH.out.lt; rw [hq] at this; exact this
  have hCh5 : Ch (World.drew ((w3.setCell ⟨p, 3, none⟩ (.pointer (some ⟨q, 0, none⟩))).alloc (.cells (bldR (some ⟨a, 0, none⟩) m c (.pointer none) (.pointer (some ⟨icb, 0, none⟩)) L k) 54))) q a c icb L k (l ++ List.replicate k 0) := ⟨by rw [HM.out]; exact hnew, HCH.out.own.tch hT5 (.inr ⟨a, rfl, by simpa using fun e : a = p => hpa e.symm⟩), Nat.ne_of_lt halt, by rw [hs5]; omega⟩
  have hK5 : Kp P w (World.drew ((w3.setCell ⟨p, 3, none⟩ (.pointer (some ⟨q, 0, none⟩))).alloc (.cells (bldR (some ⟨a, 0, none⟩) m c (.pointer none) (.pointer (some ⟨icb, 0, none⟩)) L k) 54))) := HK2.out.trans (Kp.tch hT5 (fun k hk => by simp at hk; subst hk; exact HPP.out))
  have hI5 := hT5.cell HIC2.out (by simpa using fun e : icb = p => hpi e.symm)
  have h75 := (hB5.cell 7).trans (rfl : _ = some (Value.pointer (some ⟨icb, 0, none⟩)))
  have hif5 : (World.drew ((w3.setCell ⟨p, 3, none⟩ (.pointer (some ⟨q, 0, none⟩))).alloc (.cells (bldR (some ⟨a, 0, none⟩) m c (.pointer none) (.pointer (some ⟨icb, 0, none⟩)) L k) 54))).frozen? ⟨icb, 0, none⟩ = false := (hT5.frozen' HIF2.out (by simpa using fun e : icb = p => hpi e.symm) HII.out.2.2.2)
  have hqs : w.heap.size ≤ q := by have := HK2.out.size; rw [hq] at this; exact this
  generalize World.drew ((w3.setCell ⟨p, 3, none⟩ (.pointer (some ⟨q, 0, none⟩))).alloc (.cells (bldR (some ⟨a, 0, none⟩) m c (.pointer none) (.pointer (some ⟨icb, 0, none⟩)) L k) 54)) = W5 at *
  have hiq : icb ≠ q := Nat.ne_of_lt (by have := HII.out.2.2.2; rw [hq] at this; exact this)
  have hPq : ∀ j, P j → j < W5.heap.size ∧ j ≠ q ∧ j ≠ a := fun j hj => ⟨by rw [hs5]; have := HPL.out j hj; omega, by have := HPL.out j hj; omega, fun e => HPA.out (by rw [← e]; exact hj)⟩
  have HCC := Lib.hid (callTop_any P w W5 F cap p q a c icb L k (l ++ List.replicate k 0) body hE h75 hI5 hif5 (HF.out icb) hK5 (fun j hj => ⟨(hPq j hj).1, (hPq j hj).2.1, (hPq j hj).2.2, fun e => by have := HPL.out j hj; have := HII.out.1; omega⟩) hCh5 (by rw [List.length_append, List.length_replicate]; have := HK.out; omega) (by rw [HM.out]; have h1 := HM.out; rw [List.length_append, List.length_replicate, HL.out] at h1; have := HS.out; omega) hiq (Nat.ne_of_gt HII.out.2.2.1) hpi (Nat.ne_of_lt hps2) hpa)
  have HB5 := Lib.hid hB5
  have HK5 := Lib.hid hK5
  have HPQ := Lib.hid hPq
  have HS5 := Lib.hid hs5
  have HX : Hid (p < q ∧ p ≠ a) := Lib.hid ⟨hps2, hpa⟩
  clear hTS hTA hT5 hnew hB4 hB5 hs5 hpa hpi halt hCh5 hK5 hI5 h75 hqs hPq hif5 hiq HCH HK2 HIC2 HBK
  refine HCC.out.mono ?_
  rintro e w6 ⟨rfl, ⟨a', c', hch6, ha'⟩, hk6, hic6⟩
  obtain ⟨m6, hm6⟩ : ∃ m6, l.length + k + body.length = m6 := ⟨_, rfl⟩
  have hlen : ((l ++ List.replicate k (0 : UInt8)) ++ body).length = m6 := by rw [← hm6, List.length_append, List.length_append, List.length_replicate]
  have hq6 := hch6.blk
  have ho6 := hch6.own
  rw [hlen] at hq6 ho6
  rw [← mid0] at ho6
  rw [← HL.out] at hq6
  have hp6 := HB5.out.kp hk6 ⟨Nat.ne_of_lt HX.out.1, HX.out.2, .inr (Nat.ne_of_lt HII.out.2.1)⟩
  have hpa6 : p ≠ a' := by
    rcases ha' with rfl | h
    · exact HX.out.2
    · rw [HS5.out] at h; have := HX.out.1; omega
  have hPa6 : ¬ P a' := by
    rcases ha' with rfl | h
    · exact HPA.out
    · exact fun hp => by have := (HPQ.out a' hp).1; omega
  have HFL := Lib.hid (flush_any w6 p q a' m6 c' off pl (some ⟨a, 0, none⟩) m c (.pointer (some ⟨icb, 0, none⟩)) (.pointer (some ⟨icb, 0, none⟩)) k l body HK.out.1 HK.out.2 HBL.out hm6 (by rw [← hm6, HL.out]; have := HS.out; omega) (Nat.ne_of_lt HX.out.1) hpa6 (fun e => hch6.ne e.symm) hp6 hq6 ho6)
  have HK6 : Hid (Kp P w w6) := Lib.hid (HK5.out.trans (hk6.less (fun k _ hk => ⟨(HPQ.out k hk).2.1, (HPQ.out k hk).2.2, .inr (fun e => by have := HPL.out k hk; have := HII.out.1; omega)⟩)))
  have HPA6 := Lib.hid hPa6
  have HPN6 := Lib.hid hpa6
  have HLT6 := Lib.hid hch6.lt
  have HM6 := Lib.hid hm6
  clear hch6 ha' hk6 hic6 hm6 hlen hq6 ho6 hp6 hpa6 hPa6 HCC HB5 HK5 HF
  go_wp2_with fail
  refine HFL.out.mono ?_
  rintro e w7 ⟨rfl, hb7, ho7, ht7⟩
  have c3 := hb7.cell 3
  simp [bldR] at c3
  have HB7 := Lib.hid hb7
  have HO7 := Lib.hid ho7
  have HT7 := Lib.hid ht7
  clear hb7 ho7 ht7 HFL
  go_wp2_with fail
  first | go_end0 | refine bodyPost_ret (results_none rfl _ _ _) rfl ?_
  have hfl : (l ++ (be k body.length ++ body)).length = m6 := by rw [← HM6.out, List.length_append, List.length_append, be_length]; omega
  have hk7 : Kp P w6 w7 := Kp.tch HT7.out (fun j hj => by
    simp at hj
    rcases hj with rfl | rfl
    · exact HPP.out
    · exact HPA6.out)
  refine ⟨rfl, icb, ⟨some ⟨a', 0, none⟩, c', by rw [hfl]; exact HB7.out, by rw [hfl, ← midk]; exact HO7.out, .inr ⟨a', rfl, HPA6.out, fun e => HPN6.out e.symm, Nat.lt_of_lt_of_le HLT6.out HT7.out.size⟩, HPP.out, fun j hj => Nat.lt_of_lt_of_le (HPL.out j hj) (HK6.out.trans hk7).size⟩, HK6.out.trans hk7⟩
end Go.Proofs.YtohankdfnjogfaaDoor
